/-
  The walk of the cursor's integer (36).
-/
import Derived.Test.Qxb6600744aStr
namespace Go.Proofs.Qxb6600744a
open Go.RowKit

/-- The cursor behind a step: what is left, or dead. -/
def CurO : World → Nat → Option (List Int) → Prop
  | w, bc, some r => Cur w bc r true
  | w, bc, none => ∃ r, Cur w bc r false

def digR (r : List Int) : Option (List Int) :=
  if (dg r).length = 0 ∨ (1 < (dg r).length ∧ r.getD 0 0 = 48) then none else some (r.drop (dg r).length)
/-- What integer reads. -/
def intP (bs : List Int) : Option (List Int) := digR (litR true [45] bs)

theorem byt45 : byt { data := #[45] } = [45] := rfl

theorem int_fail {w1 : World} {bc : Nat} {r : List Int} {w : World} (h : Cur w1 bc r true) (hb : Below bc w w1) (ho : Hid (digR r = none)) :
    Ending.returned (.tuple #[]) = .returned (.tuple #[]) ∧ CurO (w1.setCell ⟨bc, 1, none⟩ (.bool false)) bc (digR r) ∧ Below bc w (w1.setCell ⟨bc, 1, none⟩ (.bool false)) := by
  rw [ho.out]
  exact ⟨rfl, ⟨r, h.kill⟩, hb.trans (below_set _ _ _ _)⟩

theorem int_win {w1 : World} {bc : Nat} {r : List Int} {w : World} (h : Cur w1 bc r true) {a : Option Addr} {cap : Nat} (ha : w1.cell? ⟨bc, 0, none⟩ = some (.slice a r.length cap)) (hh : Holds bc w1 a r) (hc : r.length ≤ cap) (hm : cap ≤ 4194304)
    (hb : Below bc w w1) (k : Nat) (ho : Hid (digR r = some (r.drop k))) :
    Ending.returned (.tuple #[]) = .returned (.tuple #[]) ∧ CurO (w1.setCell ⟨bc, 0, none⟩ (.slice (adv a cap k) (r.length - k) (cap - k))) bc (digR r)
      ∧ Below bc w (w1.setCell ⟨bc, 0, none⟩ (.slice (adv a cap k) (r.length - k) (cap - k))) := by
  rw [ho.out]
  exact ⟨rfl, h.cut ha hh hc hm k, hb.trans (below_set _ _ _ _)⟩

theorem int_empty {w : World} {bc : Nat} {bs : List Int} (h : Cur w bc bs true) (hz : litR true [45] bs = []) :
    Calls Try.prog 36 #[.pointer (some ⟨bc, 0, none⟩)] w fun e w' => e = .returned (.tuple #[]) ∧ CurO w' bc (intP bs) ∧ Below bc w w' := by
  unfold intP
  go_enter Try.func36, Try.ntmps36
  go_wp2_with fail
  refine (lit_any h _).mono ?_
  rintro e w1 ⟨rfl, hc, hbel⟩
  rw [byt45] at hc ⊢
  have HO : Hid (digR (litR true [45] bs) = none) := by show _ = _; rw [hz]; rfl
  have hcur := hc
  rw [hz] at hcur
  obtain ⟨a, cap, ha, _, _, _⟩ := hcur.s
  simp only [List.length_nil] at ha
  have g1 := hcur.o
  have g2 := hcur.f1
  clear h hz
  go_wp2
  refine wp_loop_rounds 1 ?_
  rw [rounds_succ]
  go_wp2
  (try simp only [Exit.inBlock, Exit.then]); refine bodyPost_ret (results_none rfl _ _ _) rfl ?_
  exact int_fail hc hbel HO

set_option maxHeartbeats 1600000 in
theorem int_full {w : World} {bc : Nat} {bs r : List Int} (h : Cur w bc bs true) (hr : Hid (litR true [45] bs = r)) (hne : 0 < r.length) :
    Calls Try.prog 36 #[.pointer (some ⟨bc, 0, none⟩)] w fun e w' => e = .returned (.tuple #[]) ∧ CurO w' bc (digR r) ∧ Below bc w w' := by
  go_enter Try.func36, Try.ntmps36
  go_wp2_with fail
  refine (lit_any h _).mono ?_
  rintro e w1 ⟨rfl, hcur, hbel⟩
  rw [byt45] at hcur ⊢
  rw [hr.out] at hcur
  clear h hr
  obtain ⟨a, cap, ha, hh, hc, hm⟩ := hcur.s
  have h1 := hcur.o
  have hf0 := hcur.f0
  have hf1 := hcur.f1
  have hkl := dg_le r
  rcases hh with rfl | ⟨b, off, rfl, hbb, hcell⟩
  · simp at hne
  have HH : Hid (Holds bc w1 (some ⟨b, off, none⟩) r) := Or.inr ⟨b, off, rfl, hbb, hcell⟩
  have HC : Hid (∀ k, k < r.length → w1.cell? ⟨b, off + k, none⟩ = some (.int .u8 (r.getD k 0))) := hcell
  have hc0 : w1.cell? ⟨b, off, none⟩ = some (.int .u8 (r.getD 0 0)) := hcell 0 hne
  clear hcell
  obtain ⟨c0, hc0v⟩ : ∃ c, c = r.getD 0 0 := ⟨_, rfl⟩
  rw [← hc0v] at hc0
  have HC0 : Hid (c0 = r.getD 0 0) := hc0v
  clear hc0v
  have HW := fun k ho => int_win hcur ha HH.out hc hm hbel k ho
  have HW2 : Hid (∀ k (ho : Hid (digR r = some (r.drop k))), _) := HW
  have HL : Hid (∀ (ho : Hid (digR r = none)), _) := fun ho => int_fail hcur hbel ho
  clear HW hcur
  go_wp2
  go_loop [2] (fun i => ∃ k : Nat, k ≤ (dg r).length ∧ i = .int .i64 k) (fun i => r.length - (intOf i).toNat)
  case atStart => exact ⟨0, Nat.zero_le _, rfl⟩
  case round =>
    obtain ⟨k, hk, rfl⟩ := hrel
    by_cases hgo : k < r.length ∧ isDig (r.getD k 0) = true
    · obtain ⟨hlt, hd⟩ := hgo
      have hc1 := HC.out k hlt
      have hk1 := tw_next isDig hk hlt hd
      unfold isDig at hd
      have hd12 := of_decide_eq_true hd
      generalize r.getD k 0 = c at hc1 hd12
      obtain ⟨hd1, hd2⟩ := hd12
      clear hd
      go_wp2
      go_round
      case rel => exact ⟨k + 1, hk1, by go_num⟩
      case measure => simp [intOf]; omega
    · have hkd : k = (dg r).length := by
        by_cases hlt : k < r.length
        · refine tw_end isDig hk hlt ?_
          cases hq : isDig (r.getD k 0) with
          | true => exact absurd ⟨hlt, hq⟩ hgo
          | false => rfl
        · exact tw_over isDig hk hlt
      have HO : Hid (digR r = if k = 0 ∨ (1 < k ∧ c0 = 48) then none else some (r.drop k)) := by
        show _ = _
        unfold digR
        rw [← hkd, HC0.out]
      clear hkd
      have hsl := run_from (some ⟨b, off, none⟩) r.length cap k (by omega)
      rcases (show (¬ k < r.length) ∨ (k < r.length ∧ r.getD k 0 < 48) ∨ (k < r.length ∧ 57 < r.getD k 0) by
          by_cases hlt : k < r.length
          · have : ¬ isDig (r.getD k 0) = true := fun hq => hgo ⟨hlt, hq⟩
            unfold isDig at this
            rw [decide_eq_true_eq] at this
            omega
          · exact .inl hlt) with hx | ⟨hx, hx2⟩ | ⟨hx, hx2⟩
      all_goals
        clear hgo
        first | (have hc1 := HC.out k hx; generalize r.getD k 0 = c at hc1 hx2) | skip
        rcases (show k = 0 ∨ k = 1 ∨ (1 < k ∧ c0 = 48) ∨ (1 < k ∧ c0 ≠ 48) by omega) with hy | hy | ⟨hy, hy2⟩ | ⟨hy, hy2⟩
        · have e0 : ((k : Int) == 0) = true := beq_iff_eq.2 (by omega)
          have HO2 : Hid (digR r = none) := by show _ = _; rw [HO.out]; simp [hy]
          have hy1 : k ≤ 0 := by omega
          clear hy HO
          first
            | (exfalso; omega)
            | (go_wp2; (try simp only [Exit.inBlock, Exit.then]); refine bodyPost_ret (results_none rfl _ _ _) rfl ?_; exact ⟨rfl, (HL.out HO2).2⟩)
        · have e0 : ((k : Int) == 0) = false := beq_eq_false_iff_ne.2 (by omega)
          have e1 : ¬ (1 : Int) < (k : Int) := by omega
          have HO2 : Hid (digR r = some (r.drop k)) := by show _ = _; rw [HO.out]; simp [hy]
          clear hy HO
          go_wp2
          go_end0
          exact ⟨rfl, (HW2.out k HO2).2⟩
        · have e0 : ((k : Int) == 0) = false := beq_eq_false_iff_ne.2 (by omega)
          have e1 : (1 : Int) < (k : Int) := by omega
          have HO2 : Hid (digR r = none) := by show _ = _; rw [HO.out]; simp [hy, hy2]
          clear HO
          subst hy2
          go_wp2
          (try simp only [Exit.inBlock, Exit.then]); refine bodyPost_ret (results_none rfl _ _ _) rfl ?_
          exact ⟨rfl, (HL.out HO2).2⟩
        · have e0 : ((k : Int) == 0) = false := beq_eq_false_iff_ne.2 (by omega)
          have e1 : (1 : Int) < (k : Int) := by omega
          have e2 : (c0 == 48) = false := beq_eq_false_iff_ne.2 hy2
          have HO2 : Hid (digR r = some (r.drop k)) := by show _ = _; rw [HO.out, if_neg (by omega)]
          clear HO
          go_wp2
          go_end0
          exact ⟨rfl, (HW2.out k HO2).2⟩

theorem int_any {w : World} {bc : Nat} {bs : List Int} (h : Cur w bc bs true) :
    Calls Try.prog 36 #[.pointer (some ⟨bc, 0, none⟩)] w fun e w' => e = .returned (.tuple #[]) ∧ CurO w' bc (intP bs) ∧ Below bc w w' := by
  by_cases hz : 0 < (litR true [45] bs).length
  · exact int_full h (show _ = _ from rfl) hz
  · exact int_empty h (List.length_eq_zero_iff.1 (by omega))
end Go.Proofs.Qxb6600744a
