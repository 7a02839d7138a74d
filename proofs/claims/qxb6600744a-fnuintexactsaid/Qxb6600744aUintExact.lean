/-
  The walk of FnUintExact (3).
-/
import Derived.Test.Qxb6600744aFits
import Derived.Deep.RegionHeld3
namespace Go.Proofs.Qxb6600744a
open Go.RowKit

theorem drawn_below {w w' : World} {B : Nat} (h : ∃ n, w' = w.drewN n) : Below B w w' := by
  obtain ⟨n, rfl⟩ := h
  exact below_drawn (Below.refl _ _) n


/-- 'string(b[:k])', in whatever later world. -/
theorem conv_later {w2 w' : World} {A : Option Addr} {l : List Int} (hh : Hid (Holds w2.heap.size w2 A l)) {k : Nat} (hk : Hid (l.length = k)) (cap : Nat) (hb : Below w2.heap.size w2 w') :
    (convert 22 9 (.slice A k cap)).run Try.prog w' = .ok (.string (strOfNums l)) w' := by
  have := run_str (hh.out.below hb) cap
  rw [hk.out] at this
  exact this

theorem drawn_then {w w' : World} {n : Nat} (h : Below (w.drewN n).heap.size (w.drewN n) w') : Below w.heap.size w w' := ⟨h.os, h.tape, h.output, h.size, h.block⟩

theorem canon_take {bs : List Int} {k : Nat} {c0 : Int} (hd : Digits (bs.take k)) (h0 : 0 < k) (hl : k ≤ bs.length) (hc : c0 = bs.getD 0 0) (hz : ¬ (1 < k ∧ c0 = 48)) : Canon (bs.take k) := by
  have hlen : (bs.take k).length = k := by rw [List.length_take]; omega
  refine ⟨hd, fun h => by rw [h] at hlen; simp at hlen; omega, ?_⟩
  rw [hlen]
  by_cases h1 : k = 1
  · exact .inl h1
  · right
    have e : (bs.take k).getD 0 0 = bs.getD 0 0 := by simp [List.getD, h0]
    rw [e, ← hc]
    intro h
    exact hz ⟨by omega, h⟩

set_option maxHeartbeats 6400000 in
theorem uintExact_full {a : Option Addr} {cap : Nat} {bs : List Int} {w : World} (ok : Bool) (hl : bs.length ≤ 1048576) (hne : 0 < bs.length) (hbt : Bts bs) (hh : Holds w.heap.size w a bs) (hn : a = none → bs = [] ∧ cap = 0) :
    Calls Try.prog 3 #[.slice a bs.length cap, .bool ok] w fun e w' => e = .returned (.bool true) ∧ Below w.heap.size w w' := by
  have hcl := clone_any hl hh hn
  have hdl := dg_le bs
  clear hn hh
  go_enter Try.func3, Try.ntmps3
  go_wp2_with fail
  refine same_mono (zz11_y _ _ _ _ _ hl) ?_
  go_wp2_with fail
  refine hcl.mono ?_
  rintro e w1 ⟨a1, cap1, rfl, hh1, hc1, hm1, hb1⟩
  clear hcl
  have hcall := zzuint_any ok hh1 hc1 (by omega) hbt
  go_wp2_with fail
  refine hcall.mono ?_
  rintro e w2 ⟨rfl, hb2⟩
  clear hcall
  have hh2 := hh1.below hb2
  have hbw : Below w.heap.size w w2 := hb1.trans (hb2.mono hb1.size)
  have HB : Hid (Below w.heap.size w w2) := hbw
  clear hh1 hb1 hb2 hbw
  rcases hh2 with rfl | ⟨b, off, rfl, hbb, hcell⟩
  · simp at hne
  have HH : Hid (Holds w2.heap.size w2 (some ⟨b, off, none⟩) bs) := Or.inr ⟨b, off, rfl, (by have := cell_lt (hcell 0 hne); exact this), hcell⟩
  have hc0 : w2.cell? ⟨b, off, none⟩ = some (.int .u8 (bs.getD 0 0)) := hcell 0 hne
  go_wp2
  go_loop [8] (fun i => ∃ k : Nat, k ≤ (dg bs).length ∧ i = .int .i64 k) (fun i => bs.length - (intOf i).toNat)
  case atStart => exact ⟨0, Nat.zero_le _, rfl⟩
  case round =>
    obtain ⟨k, hk, rfl⟩ := hrel
    by_cases hgo : k < bs.length ∧ isDig (bs.getD k 0) = true
    · obtain ⟨hlt, hd⟩ := hgo
      have hc1 := hcell k hlt
      have hk1 := tw_next isDig hk hlt hd
      generalize bs.getD k 0 = c at hc1 hd
      clear hcell hc0
      go_wp2_with fail
      refine same_mono (isDigit_any _ _) ?_
      rw [hd]
      go_wp2
      go_round
      case rel => exact ⟨k + 1, hk1, by go_num⟩
      case measure => simp [intOf]; omega
    · have hkd : k = (dg bs).length := by
        by_cases hlt : k < bs.length
        · refine tw_end isDig hk hlt ?_
          cases hq : isDig (bs.getD k 0) with
          | true => exact absurd ⟨hlt, hq⟩ hgo
          | false => rfl
        · exact tw_over isDig hk hlt
      have hdt : dg bs = bs.take k := by rw [hkd]; exact dg_take bs
      have HO : Hid (uintOk ok bs = (ok && decide (val (bs.take k) ≤ 18446744073709551615 ∧ k ≠ 0 ∧ ¬ (1 < k ∧ bs.getD 0 0 = 48)))) := by
        show _ = _
        unfold uintOk
        rw [← hkd, hdt]
      have HT : Hid (uintOk ok bs = true → uintV ok bs = val (bs.take k) ∧ (uintR ok bs).length = bs.length - k) := by
        intro h
        rw [uintV, uintR, if_pos h, if_pos h, List.length_drop, ← hkd, hdt]
        exact ⟨rfl, rfl⟩
      have HF : Hid (uintOk ok bs = false → uintV ok bs = 0 ∧ (uintR ok bs).length = bs.length) := by
        intro h
        simp [uintV, uintR, h]
      have HDG : Hid (Digits (bs.take k)) := fun c hc => by rw [← hdt] at hc; exact dg_dig bs c hc
      clear hkd hdt
      have hx : (¬ k < bs.length) ∨ (k < bs.length ∧ isDig (bs.getD k 0) = false) := by
        by_cases hlt : k < bs.length
        · refine .inr ⟨hlt, ?_⟩
          cases hq : isDig (bs.getD k 0) with
          | true => exact absurd ⟨hlt, hq⟩ hgo
          | false => rfl
        · exact .inl hlt
      clear hgo
      have hck : k < bs.length → w2.cell? ⟨b, off + k, none⟩ = some (.int .u8 (bs.getD k 0)) := fun h => hcell k h
      clear hcell
      have hkl : k ≤ bs.length := by omega
      obtain ⟨c0, hc0v⟩ : ∃ c, c = bs.getD 0 0 := ⟨_, rfl⟩
      rw [← hc0v] at hc0 HO
      have HC0 : Hid (c0 = bs.getD 0 0) := hc0v
      clear hc0v
      rcases hx with hx | ⟨hx, hd⟩
      · clear hck
        cases ok with
        | false =>
          have e2 : uintOk false bs = false := by simp [uintOk]
          obtain ⟨e1, e3⟩ := HF.out e2
          go_wp2
          go_ret
          exact ⟨rfl, HB.out⟩
        | true =>
          by_cases hk0 : k = 0
          · exfalso
            omega
          · have hkp : 0 < k := by omega
            clear hk0
            by_cases hz : 1 < k ∧ c0 = 48
            · have e2 : uintOk true bs = false := by rw [HO.out]; simp [hz]
              obtain ⟨e1, e3⟩ := HF.out e2
              obtain ⟨hz1, rfl⟩ := hz
              have k1 : ((k : Int) == 1) = false := beq_eq_false_iff_ne.2 (by omega)
              go_wp2
              go_ret
              exact ⟨rfl, HB.out⟩
            · have hcan : Canon (bs.take k) := canon_take HDG.out hkp hkl HC0.out hz
              have hsl := run_upto (some ⟨b, off, none⟩) bs.length cap1 k (by omega)
              have hfit := fits_any hcan cap1 (HH.out.take k hc1)
              rw [List.length_take, Nat.min_eq_left hkl] at hfit
              have hzz : k = 1 ∨ (1 < k ∧ c0 ≠ 48) := by omega
              by_cases hv : val (bs.take k) ≤ 18446744073709551615
              · have e2 : uintOk true bs = true := by rw [HO.out]; simp [hv, hz]; omega
                obtain ⟨e1, e3n⟩ := HT.out e2
                obtain ⟨r, hr⟩ : ∃ r : Int, (bs.length : Int) - (k : Int) = r := ⟨_, rfl⟩
                have e3 : (((uintR true bs).length : Nat) : Int) = r := by rw [e3n]; omega
                have hwr : IntKind.i64.wrap r = r := IntWalk.i64_in _ (by omega)
                clear e3n
                rw [decide_eq_true hv] at hfit
                have hv0 : 0 ≤ val (bs.take k) := val_nonneg _ HDG.out
                have HCN : Hid (Canon (bs.take k)) := hcan
                have HHk : Hid (Holds w2.heap.size w2 (adv (some ⟨b, off, none⟩) cap1 0) (bs.take k)) := HH.out.take k hc1
                have HLk : Hid ((bs.take k).length = k) := by show _ = _; rw [List.length_take, Nat.min_eq_left hkl]
                clear hcan hz
                rcases hzz with hzz | ⟨hz1, hz2⟩
                · have k1 : ((k : Int) == 1) = true := beq_iff_eq.2 (by omega)
                  clear hzz
                  go_wp2_with fail
                  refine hfit.mono ?_
                  rintro e w3 ⟨rfl, n3, rfl⟩
                  clear hfit
                  go_wp2
                  have hv1 : val (bs.take k) ≤ 18446744073709551615 := hv
                  clear hc0 k1 hv
                  generalize adv (some ⟨b, off, none⟩) cap1 0 = A at *
                  go_region_held3 (fun w' => (convert 22 9 (.slice A k cap1)).run Try.prog w' = .ok (.string (strOfNums (bs.take k))) w') (first | exact conv_later HHk HLk _ ⟨rfl, rfl, rfl, Nat.le_refl _, fun _ _ => rfl⟩ | exact conv_later HHk HLk _ (by assumption)) ((go_at_call 16; refine (utoa_any _ hv0 hv1 _).mono ?_; rintro e w5 ⟨ds, rfl, hu, hb5⟩; have hb6 : Below w2.heap.size w2 w5 := drawn_then hb5; obtain rfl := canon_one ds.length ds (bs.take k) (Nat.le_refl _) hu.canon HCN.out hu.val))
                  go_wp2
                  go_ret
                  exact ⟨rfl, HB.out.trans (Below.mono (by assumption) HB.out.size)⟩
                · have k1 : ((k : Int) == 1) = false := beq_eq_false_iff_ne.2 (by omega)
                  have z1 : (c0 != 48) = true := by rw [bne_iff_ne]; exact hz2
                  go_wp2_with fail
                  refine hfit.mono ?_
                  rintro e w3 ⟨rfl, n3, rfl⟩
                  clear hfit
                  go_wp2
                  have hv1 : val (bs.take k) ≤ 18446744073709551615 := hv
                  clear hc0 k1 hv
                  generalize adv (some ⟨b, off, none⟩) cap1 0 = A at *
                  go_region_held3 (fun w' => (convert 22 9 (.slice A k cap1)).run Try.prog w' = .ok (.string (strOfNums (bs.take k))) w') (first | exact conv_later HHk HLk _ ⟨rfl, rfl, rfl, Nat.le_refl _, fun _ _ => rfl⟩ | exact conv_later HHk HLk _ (by assumption)) ((go_at_call 16; refine (utoa_any _ hv0 hv1 _).mono ?_; rintro e w5 ⟨ds, rfl, hu, hb5⟩; have hb6 : Below w2.heap.size w2 w5 := drawn_then hb5; obtain rfl := canon_one ds.length ds (bs.take k) (Nat.le_refl _) hu.canon HCN.out hu.val))
                  go_wp2
                  go_ret
                  exact ⟨rfl, HB.out.trans (Below.mono (by assumption) HB.out.size)⟩
              · have e2 : uintOk true bs = false := by rw [HO.out]; simp [hv]
                obtain ⟨e1, e3⟩ := HF.out e2
                rw [decide_eq_false hv] at hfit
                clear hv
                rcases hzz with hzz | ⟨hz1, hz2⟩
                · have k1 : ((k : Int) == 1) = true := beq_iff_eq.2 (by omega)
                  clear hzz
                  go_wp2_with fail
                  refine hfit.mono ?_
                  rintro e w3 ⟨rfl, hw3⟩
                  have hb3 : Below w.heap.size w w3 := HB.out.trans (drawn_below hw3)
                  go_wp2
                  go_ret
                  exact ⟨rfl, hb3⟩
                · have k1 : ((k : Int) == 1) = false := beq_eq_false_iff_ne.2 (by omega)
                  have z1 : (c0 != 48) = true := by rw [bne_iff_ne]; exact hz2
                  go_wp2_with fail
                  refine hfit.mono ?_
                  rintro e w3 ⟨rfl, hw3⟩
                  have hb3 : Below w.heap.size w w3 := HB.out.trans (drawn_below hw3)
                  go_wp2
                  go_ret
                  exact ⟨rfl, hb3⟩
      · have hc2 := hck hx
        clear hck
        generalize bs.getD k 0 = c at hc2 hd
        cases ok with
        | false =>
          have e2 : uintOk false bs = false := by simp [uintOk]
          obtain ⟨e1, e3⟩ := HF.out e2
          go_wp2_with fail
          refine same_mono (isDigit_any _ _) ?_
          rw [hd]
          go_wp2
          go_ret
          exact ⟨rfl, HB.out⟩
        | true =>
          by_cases hk0 : k = 0
          · have e2 : uintOk true bs = false := by rw [HO.out]; simp [hk0]
            obtain ⟨e1, e3⟩ := HF.out e2
            have hk1 : k ≤ 0 := by omega
            clear hk0
            go_wp2_with fail
            refine same_mono (isDigit_any _ _) ?_
            rw [hd]
            go_wp2
            go_ret
            exact ⟨rfl, HB.out⟩
          · have hkp : 0 < k := by omega
            clear hk0
            by_cases hz : 1 < k ∧ c0 = 48
            · have e2 : uintOk true bs = false := by rw [HO.out]; simp [hz]
              obtain ⟨e1, e3⟩ := HF.out e2
              obtain ⟨hz1, rfl⟩ := hz
              have k1 : ((k : Int) == 1) = false := beq_eq_false_iff_ne.2 (by omega)
              go_wp2_with fail
              refine same_mono (isDigit_any _ _) ?_
              rw [hd]
              go_wp2
              go_ret
              exact ⟨rfl, HB.out⟩
            · have hcan : Canon (bs.take k) := canon_take HDG.out hkp hkl HC0.out hz
              have hsl := run_upto (some ⟨b, off, none⟩) bs.length cap1 k (by omega)
              have hfit := fits_any hcan cap1 (HH.out.take k hc1)
              rw [List.length_take, Nat.min_eq_left hkl] at hfit
              have hzz : k = 1 ∨ (1 < k ∧ c0 ≠ 48) := by omega
              by_cases hv : val (bs.take k) ≤ 18446744073709551615
              · have e2 : uintOk true bs = true := by rw [HO.out]; simp [hv, hz]; omega
                obtain ⟨e1, e3n⟩ := HT.out e2
                obtain ⟨r, hr⟩ : ∃ r : Int, (bs.length : Int) - (k : Int) = r := ⟨_, rfl⟩
                have e3 : (((uintR true bs).length : Nat) : Int) = r := by rw [e3n]; omega
                have hwr : IntKind.i64.wrap r = r := IntWalk.i64_in _ (by omega)
                clear e3n
                rw [decide_eq_true hv] at hfit
                have hv0 : 0 ≤ val (bs.take k) := val_nonneg _ HDG.out
                have HCN : Hid (Canon (bs.take k)) := hcan
                have HHk : Hid (Holds w2.heap.size w2 (adv (some ⟨b, off, none⟩) cap1 0) (bs.take k)) := HH.out.take k hc1
                have HLk : Hid ((bs.take k).length = k) := by show _ = _; rw [List.length_take, Nat.min_eq_left hkl]
                clear hcan hz
                rcases hzz with hzz | ⟨hz1, hz2⟩
                · have k1 : ((k : Int) == 1) = true := beq_iff_eq.2 (by omega)
                  clear hzz
                  go_wp2_with fail
                  refine same_mono (isDigit_any _ _) ?_
                  rw [hd]
                  go_wp2_with fail
                  refine hfit.mono ?_
                  rintro e w3 ⟨rfl, n3, rfl⟩
                  clear hfit
                  go_wp2
                  have hv1 : val (bs.take k) ≤ 18446744073709551615 := hv
                  clear hc0 k1 hv
                  generalize adv (some ⟨b, off, none⟩) cap1 0 = A at *
                  go_region_held3 (fun w' => (convert 22 9 (.slice A k cap1)).run Try.prog w' = .ok (.string (strOfNums (bs.take k))) w') (first | exact conv_later HHk HLk _ ⟨rfl, rfl, rfl, Nat.le_refl _, fun _ _ => rfl⟩ | exact conv_later HHk HLk _ (by assumption)) ((go_at_call 16; refine (utoa_any _ hv0 hv1 _).mono ?_; rintro e w5 ⟨ds, rfl, hu, hb5⟩; have hb6 : Below w2.heap.size w2 w5 := drawn_then hb5; obtain rfl := canon_one ds.length ds (bs.take k) (Nat.le_refl _) hu.canon HCN.out hu.val))
                  go_wp2
                  go_ret
                  exact ⟨rfl, HB.out.trans (Below.mono (by assumption) HB.out.size)⟩
                · have k1 : ((k : Int) == 1) = false := beq_eq_false_iff_ne.2 (by omega)
                  have z1 : (c0 != 48) = true := by rw [bne_iff_ne]; exact hz2
                  go_wp2_with fail
                  refine same_mono (isDigit_any _ _) ?_
                  rw [hd]
                  go_wp2_with fail
                  refine hfit.mono ?_
                  rintro e w3 ⟨rfl, n3, rfl⟩
                  clear hfit
                  go_wp2
                  have hv1 : val (bs.take k) ≤ 18446744073709551615 := hv
                  clear hc0 k1 hv
                  generalize adv (some ⟨b, off, none⟩) cap1 0 = A at *
                  go_region_held3 (fun w' => (convert 22 9 (.slice A k cap1)).run Try.prog w' = .ok (.string (strOfNums (bs.take k))) w') (first | exact conv_later HHk HLk _ ⟨rfl, rfl, rfl, Nat.le_refl _, fun _ _ => rfl⟩ | exact conv_later HHk HLk _ (by assumption)) ((go_at_call 16; refine (utoa_any _ hv0 hv1 _).mono ?_; rintro e w5 ⟨ds, rfl, hu, hb5⟩; have hb6 : Below w2.heap.size w2 w5 := drawn_then hb5; obtain rfl := canon_one ds.length ds (bs.take k) (Nat.le_refl _) hu.canon HCN.out hu.val))
                  go_wp2
                  go_ret
                  exact ⟨rfl, HB.out.trans (Below.mono (by assumption) HB.out.size)⟩
              · have e2 : uintOk true bs = false := by rw [HO.out]; simp [hv]
                obtain ⟨e1, e3⟩ := HF.out e2
                rw [decide_eq_false hv] at hfit
                clear hv
                rcases hzz with hzz | ⟨hz1, hz2⟩
                · have k1 : ((k : Int) == 1) = true := beq_iff_eq.2 (by omega)
                  clear hzz
                  go_wp2_with fail
                  refine same_mono (isDigit_any _ _) ?_
                  rw [hd]
                  go_wp2_with fail
                  refine hfit.mono ?_
                  rintro e w3 ⟨rfl, hw3⟩
                  have hb3 : Below w.heap.size w w3 := HB.out.trans (drawn_below hw3)
                  go_wp2
                  go_ret
                  exact ⟨rfl, hb3⟩
                · have k1 : ((k : Int) == 1) = false := beq_eq_false_iff_ne.2 (by omega)
                  have z1 : (c0 != 48) = true := by rw [bne_iff_ne]; exact hz2
                  go_wp2_with fail
                  refine same_mono (isDigit_any _ _) ?_
                  rw [hd]
                  go_wp2_with fail
                  refine hfit.mono ?_
                  rintro e w3 ⟨rfl, hw3⟩
                  have hb3 : Below w.heap.size w w3 := HB.out.trans (drawn_below hw3)
                  go_wp2
                  go_ret
                  exact ⟨rfl, hb3⟩

theorem uintExact_empty {a : Option Addr} {cap : Nat} {w : World} (ok : Bool) (hn : a = none → cap = 0) :
    Calls Try.prog 3 #[.slice a 0 cap, .bool ok] w fun e w' => e = .returned (.bool true) ∧ Below w.heap.size w w' := by
  have hcl := clone_any (w := w) (a := a) (cap := cap) (bs := []) (by simp) (.inl rfl) (fun h => ⟨rfl, hn h⟩)
  have e2 : uintOk ok [] = false := by cases ok <;> rfl
  have e1 : uintV ok [] = 0 := by simp [uintV, e2]
  have e3 : uintR ok [] = [] := by simp [uintR, e2]
  simp only [List.length_nil] at hcl
  have HCL : Hid (Calls Try.prog 12 #[.slice a 0 cap] w _) := hcl
  clear hcl
  go_enter Try.func3, Try.ntmps3
  go_wp2_with fail
  refine same_mono (zz11_y _ _ _ _ _ (by omega)) ?_
  go_wp2_with fail
  refine HCL.out.mono ?_
  rintro e w1 ⟨a1, cap1, rfl, hh1, hc1, hm1, hb1⟩
  have hcall := zzuint_any ok hh1 hc1 (by omega) (fun x hx => by simp at hx)
  rw [e1, e2, e3] at hcall
  simp only [List.length_nil] at hcall
  have HC2 : Hid (Calls Try.prog 13 #[.slice a1 0 cap1, .bool ok] w1 _) := hcall
  clear HCL hcall e1 e2 e3 hh1
  go_wp2_with fail
  refine HC2.out.mono ?_
  rintro e w2 ⟨rfl, hb2⟩
  have hbw : Below w.heap.size w w2 := hb1.trans (hb2.mono hb1.size)
  clear HC2
  go_wp2
  refine wp_loop_rounds 1 ?_
  rw [rounds_succ]
  cases ok
  all_goals
    go_wp2
    go_ret
    exact ⟨rfl, hbw⟩

theorem uintExact_walk {a : Option Addr} {cap : Nat} {bs : List Int} {w : World} (ok : Bool) (hbt : Bts bs) (hh : Holds w.heap.size w a bs) (hn : a = none → bs = [] ∧ cap = 0) :
    Calls Try.prog 3 #[.slice a bs.length cap, .bool ok] w fun e w' => e = .returned (.bool true) ∧ Below w.heap.size w w' := by
  by_cases hl : bs.length ≤ 1048576
  · by_cases hne : 0 < bs.length
    · exact uintExact_full ok hl hne hbt hh hn
    · obtain rfl : bs = [] := List.length_eq_zero_iff.1 (by omega)
      exact uintExact_empty ok (fun h => (hn h).2)
  · go_enter Try.func3, Try.ntmps3
    go_wp2_with fail
    refine same_mono (zz11_n _ _ _ _ _ (by omega)) ?_
    go_wp2
    go_ret
    exact ⟨rfl, Below.refl _ _⟩
end Go.Proofs.Qxb6600744a
