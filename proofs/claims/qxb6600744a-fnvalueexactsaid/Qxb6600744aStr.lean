/-
  The walk of the cursor's str (30) and of ZZStr (19).
-/
import Derived.Test.Qxb6600744aZzuint
import Derived.Test.Qxb6600744aPlainStr
namespace Go.Proofs.Qxb6600744a
open Go.RowKit

def strOk (ok : Bool) (bs : List Int) : Bool := litB ok [34] bs && closes (bs.drop 1)
def strS (ok : Bool) (bs : List Int) : List Int := if strOk ok bs then sf (bs.drop 1) else []
def strR (ok : Bool) (bs : List Int) : List Int :=
  if strOk ok bs then (bs.drop 1).drop ((sf (bs.drop 1)).length + 1) else litR ok [34] bs

theorem byt34 : byt { data := #[34] } = [34] := rfl

theorem str_fail {w1 : World} {bc : Nat} {bs : List Int} {ok ok1 : Bool} {w : World} (h : Cur w1 bc (litR ok [34] bs) ok1) (hb : Below bc w w1) (ho : Hid (strOk ok bs = false)) :
    Ending.returned (.string { data := #[] }) = .returned (.string (strOfNums (strS ok bs))) ∧ Cur (w1.setCell ⟨bc, 1, none⟩ (.bool false)) bc (strR ok bs) (strOk ok bs) ∧ Below bc w (w1.setCell ⟨bc, 1, none⟩ (.bool false)) := by
  have ho := ho.out
  refine ⟨by simp [strS, ho]; rfl, ?_, hb.trans (below_set _ _ _ _)⟩
  rw [ho]
  simpa [strR, ho] using h.kill

theorem str_noquote {w : World} {bc : Nat} {bs : List Int} {ok : Bool} (h : Cur w bc bs ok) (hq : litB ok [34] bs = false) :
    Calls Try.prog 30 #[.pointer (some ⟨bc, 0, none⟩)] w fun e w' => e = .returned (.string (strOfNums (strS ok bs))) ∧ Cur w' bc (strR ok bs) (strOk ok bs) ∧ Below bc w w' := by
  have ho : Hid (strOk ok bs = false) := by show _ = _; simp [strOk, hq]
  go_enter Try.func30, Try.ntmps30
  go_wp2_with fail
  refine (lit_any h _).mono ?_
  rintro e w1 ⟨rfl, hc, hbel⟩
  rw [byt34] at hc ⊢
  rw [hq]
  have g1 := hc.o
  have g2 := hc.f1
  go_wp2
  go_ret
  exact str_fail hc hbel ho

theorem str_win {w1 : World} {bc : Nat} {bs : List Int} {w : World} (h : Cur w1 bc (bs.drop 1) true) {a : Option Addr} {cap : Nat} (ha : w1.cell? ⟨bc, 0, none⟩ = some (.slice a (bs.drop 1).length cap)) (hh : Holds bc w1 a (bs.drop 1)) (hc : (bs.drop 1).length ≤ cap) (hm : cap ≤ 4194304)
    (hb : Below bc w w1) (ho : Hid (strOk true bs = true)) (k : Nat) (hk : Hid (k = (sf (bs.drop 1)).length)) :
    Ending.returned (.string (strOfNums ((bs.drop 1).take k))) = .returned (.string (strOfNums (strS true bs))) ∧ Cur (w1.setCell ⟨bc, 0, none⟩ (.slice (adv a cap (k + 1)) ((bs.drop 1).length - (k + 1)) (cap - (k + 1)))) bc (strR true bs) (strOk true bs)
      ∧ Below bc w (w1.setCell ⟨bc, 0, none⟩ (.slice (adv a cap (k + 1)) ((bs.drop 1).length - (k + 1)) (cap - (k + 1)))) := by
  have ho := ho.out
  have hk := hk.out
  subst hk
  refine ⟨?_, ?_, hb.trans (below_set _ _ _ _)⟩
  · have e : strS true bs = (bs.drop 1).take (sf (bs.drop 1)).length := by simp only [strS, ho, if_true]; exact tw_take _ _
    rw [e]
  · rw [ho]
    have e : strR true bs = (bs.drop 1).drop ((sf (bs.drop 1)).length + 1) := by simp only [strR, ho, if_true]
    rw [e]
    exact h.cut ha hh hc hm _

theorem str_quote_empty {w : World} {bc : Nat} {bs : List Int} (h : Cur w bc bs true) (hq : litB true [34] bs = true) (hz : (bs.drop 1) = []) :
    Calls Try.prog 30 #[.pointer (some ⟨bc, 0, none⟩)] w fun e w' => e = .returned (.string (strOfNums (strS true bs))) ∧ Cur w' bc (strR true bs) (strOk true bs) ∧ Below bc w w' := by
  have ho : Hid (strOk true bs = false) := by show _ = _; simp [strOk, hz]; intro _; rfl
  go_enter Try.func30, Try.ntmps30
  go_wp2_with fail
  refine (lit_any h _).mono ?_
  rintro e w1 ⟨rfl, hc, hbel⟩
  rw [byt34] at hc ⊢
  rw [hq]
  have hR : litR true [34] bs = [] := by simp [litR, hq, hz]
  have hcur := hc
  rw [hR] at hcur
  clear hq hR h hz
  obtain ⟨a, cap, ha, _, _, _⟩ := hcur.s
  simp only [List.length_nil] at ha
  have g1 := hcur.o
  have g2 := hcur.f1
  go_wp2
  refine wp_loop_rounds 1 ?_
  rw [rounds_succ]
  go_wp2
  go_ret
  exact str_fail hc hbel ho

set_option maxHeartbeats 1600000 in
theorem str_quote_full {w : World} {bc : Nat} {bs : List Int} (h : Cur w bc bs true) (hq : litB true [34] bs = true) (hne : 0 < (bs.drop 1).length) :
    Calls Try.prog 30 #[.pointer (some ⟨bc, 0, none⟩)] w fun e w' => e = .returned (.string (strOfNums (strS true bs))) ∧ Cur w' bc (strR true bs) (strOk true bs) ∧ Below bc w w' := by
  go_enter Try.func30, Try.ntmps30
  go_wp2_with fail
  refine (lit_any h _).mono ?_
  rintro e w1 ⟨rfl, hc, hbel⟩
  rw [byt34] at hc ⊢
  rw [hq]
  have hR : litR true [34] bs = bs.drop 1 := by simp [litR, hq]
  have hcur := hc
  rw [hR] at hcur
  have hOk : Hid (strOk true bs = closes (bs.drop 1)) := by show _ = _; simp [strOk, hq]
  obtain ⟨a, cap, ha, hh, hlc, hm⟩ := hcur.s
  have hwin := fun ho k hk => str_win hcur ha hh hlc hm hbel ho k hk
  have hlose := fun ho => str_fail (w := w) hc hbel ho
  have HW : Hid (∀ (ho : Hid (strOk true bs = true)) (k : Nat) (hk : Hid (k = (sf (bs.drop 1)).length)), _) := hwin
  have HL : Hid (∀ (ho : Hid (strOk true bs = false)), _) := hlose
  clear hwin hlose
  have g1 := hcur.o
  have g2 := hcur.f1
  have g3 := hcur.f0
  have hbts := hcur.b
  clear hq hR hc h hcur
  generalize bs.drop 1 = rs at *
  rcases hh with rfl | ⟨b, off, rfl, hbb, hcell⟩
  · simp at hne
  have HH : Hid (Holds bc w1 (some ⟨b, off, none⟩) rs) := Or.inr ⟨b, off, rfl, hbb, hcell⟩
  have hlen := tw_le safe rs
  go_wp2
  go_loop [3] (fun i => ∃ k : Nat, k ≤ (rs.takeWhile safe).length ∧ i = .int .i64 k) (fun i => rs.length - (intOf i).toNat)
  case atStart => exact ⟨0, Nat.zero_le _, rfl⟩
  case round =>
    obtain ⟨k, hk, rfl⟩ := hrel
    by_cases hlt : k < rs.length
    · have hc1 := hcell k hlt
      by_cases hs : safe (rs.getD k 0) = true
      · have hk1 := tw_next safe hk hlt hs
        unfold safe at hs
        have hs' := of_decide_eq_true hs
        clear hs hcell
        generalize rs.getD k 0 = c at hc1 hs'
        obtain ⟨s1, s2, s3, s4, s5, s6, s7⟩ := hs'
        have e3 : (c == 34) = false := beq_eq_false_iff_ne.2 s3
        have e4 : (c == 92) = false := beq_eq_false_iff_ne.2 s4
        have e5 : (c == 60) = false := beq_eq_false_iff_ne.2 s5
        have e6 : (c == 62) = false := beq_eq_false_iff_ne.2 s6
        have e7 : (c == 38) = false := beq_eq_false_iff_ne.2 s7
        clear s3 s4 s5 s6 s7
        go_wp2
        go_round
        case rel => exact ⟨k + 1, hk1, by go_num⟩
        case measure => simp [intOf]; omega
      · have hend := tw_end safe hk hlt (by simpa using hs)
        have HK : Hid (k = (sf rs).length) := hend
        have hO2 : Hid (strOk true bs = decide (rs.getD k 0 = 34)) := by
          show _ = _
          rw [hOk.out]
          unfold closes
          rw [← HK.out]
        clear hend hcell
        unfold safe at hs
        rw [decide_eq_true_eq] at hs
        by_cases e34 : rs.getD k 0 = 34
        · rw [e34] at hc1
          have hsl := run_upto (some ⟨b, off, none⟩) rs.length cap k (by omega)
          have hconv := run_str (HH.out.take k hlc) cap
          rw [List.length_take, Nat.min_eq_left (by omega)] at hconv
          have hsl2 := run_from (some ⟨b, off, none⟩) rs.length cap (k + 1) (by omega)
          rw [show ((k + 1 : Nat) : Int) = (k : Int) + 1 by omega] at hsl2
          have HO : Hid (strOk true bs = true) := by show _ = _; rw [hO2.out]; exact decide_eq_true e34
          clear hs e34 hO2
          go_wp2
          go_ret
          exact HW.out HO k HK
        · have HO : Hid (strOk true bs = false) := by show _ = _; rw [hO2.out]; exact decide_eq_false e34
          clear hO2
          generalize rs.getD k 0 = c at hc1 hs e34
          have e3 : (c == 34) = false := beq_eq_false_iff_ne.2 e34
          rcases (show c < 32 ∨ (¬ c < 32 ∧ 126 < c) ∨ (¬ c < 32 ∧ ¬ 126 < c ∧ c = 92) ∨ (¬ c < 32 ∧ ¬ 126 < c ∧ c = 60) ∨ (¬ c < 32 ∧ ¬ 126 < c ∧ c = 62) ∨ (¬ c < 32 ∧ ¬ 126 < c ∧ c = 38) by omega) with h1 | ⟨h1, h2⟩ | ⟨h1, h2, rfl⟩ | ⟨h1, h2, rfl⟩ | ⟨h1, h2, rfl⟩ | ⟨h1, h2, rfl⟩
          all_goals
            clear hs e34
            go_wp2
            go_ret
            exact HL.out HO
    · have hend := tw_over safe hk hlt
      have HO : Hid (strOk true bs = false) := by
        show _ = _
        rw [hOk.out]
        unfold closes sf
        rw [← hend]
        apply decide_eq_false
        simp [List.getD, List.getElem?_eq_none (Nat.le_of_not_lt hlt)]
      clear hend hcell
      go_wp2
      go_ret
      exact HL.out HO

theorem str_any {w : World} {bc : Nat} {bs : List Int} {ok : Bool} (h : Cur w bc bs ok) :
    Calls Try.prog 30 #[.pointer (some ⟨bc, 0, none⟩)] w fun e w' => e = .returned (.string (strOfNums (strS ok bs))) ∧ Cur w' bc (strR ok bs) (strOk ok bs) ∧ Below bc w w' := by
  cases hq : litB ok [34] bs with
  | false => exact str_noquote h hq
  | true =>
    have hok : ok = true := by cases ok <;> simp_all [litB]
    subst hok
    by_cases hz : 0 < (bs.drop 1).length
    · exact str_quote_full h hq hz
    · exact str_quote_empty h hq (List.length_eq_zero_iff.1 (by omega))

theorem zzstr_any {w : World} {a : Option Addr} {cap : Nat} {bs : List Int} (ok : Bool) (hh : Holds w.heap.size w a bs) (hc : bs.length ≤ cap) (hm : cap ≤ 4194304) (hb : Bts bs) :
    Calls Try.prog 19 #[.slice a bs.length cap, .bool ok] w fun e w' => e = .returned (.tuple #[.string (strOfNums (strS ok bs)), .int .i64 ((strR ok bs).length : Nat), .bool (strOk ok bs)]) ∧ Below w.heap.size w w' := by
  have hcur := cur_new ok hh hc hm hb
  have hbel0 : Below w.heap.size w (w.alloc (.cells #[.slice a bs.length cap, .bool ok] 46)) := (Below.refl _ _).alloc (Nat.le_refl _) _
  go_enter Try.func19, Try.ntmps19
  go_wp2_with fail
  refine (str_any hcur).mono ?_
  rintro e w1 ⟨rfl, hcur1, hbel⟩
  obtain ⟨a1, cap1, ha1, _, _, _⟩ := hcur1.s
  have ho1 := hcur1.o
  go_wp2
  go_quiet (fail)
  go_wp2
  go_ret3
  exact ⟨rfl, below_drawn (hbel0.trans hbel) _⟩
end Go.Proofs.Qxb6600744a
