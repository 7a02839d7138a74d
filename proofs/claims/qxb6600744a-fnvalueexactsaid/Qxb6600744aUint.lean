/-
  The walk of the cursor's uint (29).
-/
import Derived.Test.Qxb6600744aLeaf
namespace Go.Proofs.Qxb6600744a
open Go.RowKit

theorem uint_dead (bc : Nat) (w : World) (h1 : w.cell? ⟨bc, 1, none⟩ = some (.bool false)) :
    Calls Try.prog 29 #[.pointer (some ⟨bc, 0, none⟩)] w fun e w' => e = .returned (.int .u64 0) ∧ w' = w := by
  go_enter Try.func29, Try.ntmps29
  go_wp2
  go_ret
  exact ⟨rfl, rfl⟩

theorem ret_u64 {a b : Int} (h : a = b) : Ending.returned (.int .u64 a) = .returned (.int .u64 b) := by rw [h]

theorem uint_fail {w : World} {bc : Nat} {bs : List Int} (h : Cur w bc bs true) (ho : Hid (uintOk true bs = false)) :
    Ending.returned (.int .u64 0) = .returned (.int .u64 (uintV true bs)) ∧ Cur (w.setCell ⟨bc, 1, none⟩ (.bool false)) bc (uintR true bs) (uintOk true bs) ∧ Below bc w (w.setCell ⟨bc, 1, none⟩ (.bool false)) := by
  have ho := ho.out
  refine ⟨by simp [uintV, ho], ?_, below_set _ _ _ _⟩
  rw [ho]
  simpa [uintR, ho] using h.kill

theorem uint_win {w : World} {bc : Nat} {bs : List Int} (h : Cur w bc bs true) {a : Option Addr} {cap : Nat} (ha : w.cell? ⟨bc, 0, none⟩ = some (.slice a bs.length cap)) (hh : Holds bc w a bs) (hc : bs.length ≤ cap) (hm : cap ≤ 4194304)
    (ho : Hid (uintOk true bs = true)) (k : Nat) (hk : Hid (k = (dg bs).length)) :
    Ending.returned (.int .u64 (val (bs.take k))) = .returned (.int .u64 (uintV true bs)) ∧ Cur (w.setCell ⟨bc, 0, none⟩ (.slice (adv a cap k) (bs.length - k) (cap - k))) bc (uintR true bs) (uintOk true bs) ∧ Below bc w (w.setCell ⟨bc, 0, none⟩ (.slice (adv a cap k) (bs.length - k) (cap - k))) := by
  have ho := ho.out
  have hk := hk.out
  subst hk
  refine ⟨ret_u64 ?_, ?_, below_set _ _ _ _⟩
  · simp only [uintV, ho, if_true]; rw [← dg_take]
  · rw [ho]
    simpa [uintR, ho] using h.cut ha hh hc hm (dg bs).length

theorem uint_empty {w : World} {bc : Nat} (h : Cur w bc [] true) :
    Calls Try.prog 29 #[.pointer (some ⟨bc, 0, none⟩)] w fun e w' => e = .returned (.int .u64 (uintV true [])) ∧ Cur w' bc (uintR true []) (uintOk true []) ∧ Below bc w w' := by
  obtain ⟨a, cap, ha, hh, hc, hm⟩ := h.s
  have h1 := h.o
  have hf1 := h.f1
  simp only [List.length_nil] at ha
  go_enter Try.func29, Try.ntmps29
  go_wp2
  refine wp_loop_rounds 1 ?_
  rw [rounds_succ]
  go_wp2
  go_ret
  exact uint_fail h (show _ = _ by decide)

set_option maxHeartbeats 1600000 in
theorem uint_full {w : World} {bc : Nat} {bs : List Int} (h : Cur w bc bs true) (b off cap : Nat) (ha : w.cell? ⟨bc, 0, none⟩ = some (.slice (some ⟨b, off, none⟩) bs.length cap)) (hbb : b < bc) (hc : bs.length ≤ cap) (hm : cap ≤ 4194304) (h0 : 0 < bs.length)
    (hcell : ∀ k, k < bs.length → w.cell? ⟨b, off + k, none⟩ = some (.int .u8 (bs.getD k 0))) :
    Calls Try.prog 29 #[.pointer (some ⟨bc, 0, none⟩)] w fun e w' => e = .returned (.int .u64 (uintV true bs)) ∧ Cur w' bc (uintR true bs) (uintOk true bs) ∧ Below bc w w' := by
  have HH : Hid (Holds bc w (some ⟨b, off, none⟩) bs) := Or.inr ⟨b, off, rfl, hbb, hcell⟩
  have hc0 : w.cell? ⟨b, off, none⟩ = some (.int .u8 (bs.getD 0 0)) := hcell 0 h0
  have h1 := h.o
  have hf0 := h.f0
  have hf1 := h.f1
  have hkl := dg_le bs
  go_enter Try.func29, Try.ntmps29
  go_wp2
  go_loop [3, 4] (fun i v => ∃ k : Nat, k ≤ (dg bs).length ∧ i = .int .i64 k ∧ v = .int .u64 (val (bs.take k)) ∧ val (bs.take k) ≤ 18446744073709551615) (fun i _ => bs.length - (intOf i).toNat)
  case atStart => exact ⟨0, Nat.zero_le _, rfl, by simp [val], by simp [val]⟩
  case round =>
    obtain ⟨k, hk, rfl, rfl, hv⟩ := hrel
    have hv0 := val_nonneg _ (take_dig hk)
    by_cases hgo : k < bs.length ∧ isDig (bs.getD k 0) = true
    · obtain ⟨hlt, hdig⟩ := hgo
      have hc1 := hcell k hlt
      have hstep := dg_step hk hlt
      rw [hdig] at hstep
      have hk1 : k + 1 ≤ (dg bs).length := of_decide_eq_true hstep.symm
      have HV : Hid (val (bs.take (k + 1)) = 10 * val (bs.take k) + (bs.getD k 0 - 48)) := by
        show _ = _
        rw [take_snoc hlt, val_snoc]
      have HM : Hid (val (bs.take (k + 1)) ≤ val (dg bs)) := val_take_le hk1
      unfold isDig at hdig
      have hd12 := of_decide_eq_true hdig
      generalize bs.getD k 0 = c at hc1 hd12 HV
      generalize val (bs.take k) = v at *
      obtain ⟨hd1, hd2⟩ := hd12
      clear hcell hdig hstep HH hc0
      go_wp2
      · go_ret
        refine uint_fail h (show _ = _ from ?_)
        have := HV.out
        have := HM.out
        simp only [uintOk, Bool.true_and]
        apply decide_eq_false
        omega
      · go_round
        case rel => exact ⟨k + 1, hk1, by go_num, by rw [HV.out], by rw [HV.out]; omega⟩
        case measure => simp [intOf]; omega
    · have hkd : k = (dg bs).length := by
        by_cases hlt : k < bs.length
        · have hstep := dg_step hk hlt
          have : isDig (bs.getD k 0) = false := by
            cases hq : isDig (bs.getD k 0) with
            | true => exact absurd ⟨hlt, hq⟩ hgo
            | false => rfl
          rw [this] at hstep
          have := of_decide_eq_false hstep.symm
          omega
        · omega
      have HK : Hid (k = (dg bs).length) := hkd
      have hval : val (dg bs) = val (bs.take k) := by rw [hkd, ← dg_take]
      have HO : Hid (uintOk true bs = decide (k ≠ 0 ∧ ¬ (1 < k ∧ bs.getD 0 0 = 48))) := by
        show _ = _
        simp only [uintOk, Bool.true_and]
        rw [hval, ← hkd, decide_eq_decide]
        constructor
        · exact fun h => h.2
        · exact fun h => ⟨hv, h⟩
      clear hkd hval
      have hsl := run_from (some ⟨b, off, none⟩) bs.length cap k (by omega)
      rcases (show (¬ k < bs.length) ∨ (k < bs.length ∧ bs.getD k 0 < 48) ∨ (k < bs.length ∧ 57 < bs.getD k 0) by
          by_cases hlt : k < bs.length
          · have : ¬ isDig (bs.getD k 0) = true := fun hq => hgo ⟨hlt, hq⟩
            unfold isDig at this
            rw [decide_eq_true_eq] at this
            omega
          · exact .inl hlt) with hx | ⟨hx, hx2⟩ | ⟨hx, hx2⟩
      all_goals
        clear hgo
        first | (have hc1 := hcell k hx; generalize bs.getD k 0 = c at hc1 hx2) | skip
        generalize bs.getD 0 0 = c0 at hc0 HO
        clear hcell
        rcases (show k = 0 ∨ k = 1 ∨ (1 < k ∧ c0 = 48) ∨ (1 < k ∧ c0 ≠ 48) by omega) with hy | hy | ⟨hy, hy2⟩ | ⟨hy, hy2⟩
        · have e0 : ((k : Int) == 0) = true := beq_iff_eq.2 (by omega)
          have HO2 : Hid (uintOk true bs = false) := by show _ = _; rw [HO.out]; simp [hy]
          have hy1 : k ≤ 0 := by omega
          clear hy HO
          first
            | (exfalso; omega)
            | (go_wp2; go_ret; exact uint_fail h HO2)
        · have e0 : ((k : Int) == 0) = false := beq_eq_false_iff_ne.2 (by omega)
          have e1 : ¬ (1 : Int) < (k : Int) := by omega
          have HO2 : Hid (uintOk true bs = true) := by show _ = _; rw [HO.out]; simp [hy]
          clear hy
          go_wp2
          go_ret
          exact uint_win h ha HH.out hc hm HO2 k HK
        · have e0 : ((k : Int) == 0) = false := beq_eq_false_iff_ne.2 (by omega)
          have e1 : (1 : Int) < (k : Int) := by omega
          subst hy2
          go_wp2
          go_ret
          exact uint_fail h (show _ = _ by rw [HO.out]; simp [hy])
        · have e0 : ((k : Int) == 0) = false := beq_eq_false_iff_ne.2 (by omega)
          have e1 : (1 : Int) < (k : Int) := by omega
          have e2 : (c0 == 48) = false := beq_eq_false_iff_ne.2 hy2
          go_wp2
          go_ret
          exact uint_win h ha HH.out hc hm (show _ = _ by rw [HO.out]; simp [hy2]; omega) k HK

theorem uint_any {w : World} {bc : Nat} {bs : List Int} {ok : Bool} (h : Cur w bc bs ok) :
    Calls Try.prog 29 #[.pointer (some ⟨bc, 0, none⟩)] w fun e w' => e = .returned (.int .u64 (uintV ok bs)) ∧ Cur w' bc (uintR ok bs) (uintOk ok bs) ∧ Below bc w w' := by
  cases ok with
  | false =>
    refine (uint_dead bc w h.o).mono ?_
    rintro e w' ⟨rfl, rfl⟩
    exact ⟨by simp [uintV, uintOk], by simpa [uintR, uintOk] using h, Below.refl _ _⟩
  | true =>
    obtain ⟨a, cap, ha, hh, hc, hm⟩ := h.s
    rcases hh with rfl | ⟨b, off, rfl, hbb, hcell⟩
    · exact uint_empty h
    · by_cases h0 : 0 < bs.length
      · exact uint_full h b off cap ha hbb hc hm h0 hcell
      · obtain rfl : bs = [] := List.length_eq_zero_iff.1 (by omega)
        exact uint_empty h
end Go.Proofs.Qxb6600744a
