/-
  The walk of the cursor's value (31): a dead cursor, nothing to read, and the values that hold no others.
-/
import Derived.Test.Qxb6600744aPlainValue
namespace Go.Proofs.Qxb6600744a
open Go.RowKit

theorem value_dead {w : World} {bc : Nat} {bs : List Int} (d : Int) (h : Cur w bc bs false) :
    Calls Try.prog 31 #[.pointer (some ⟨bc, 0, none⟩), .int .i64 d] w fun e w' => e = .returned (.tuple #[]) ∧ Cur w' bc bs false ∧ Below bc w w' := by
  have h1 := h.o
  have hf1 := h.f1
  go_enter Try.func31, Try.ntmps31
  go_wp2_with fail
  (try simp only [Exit.inBlock, Exit.then]); refine bodyPost_ret (results_none rfl _ _ _) rfl ?_
  exact ⟨rfl, h.kill, below_set _ _ _ _⟩

theorem value_stop {w : World} {bc : Nat} {bs : List Int} (d : Int) (h : Cur w bc bs true) (hs : bs = [] ∨ d = 32) :
    Calls Try.prog 31 #[.pointer (some ⟨bc, 0, none⟩), .int .i64 d] w fun e w' => e = .returned (.tuple #[]) ∧ CurO w' bc none ∧ Below bc w w' := by
  have h1 := h.o
  have hf1 := h.f1
  obtain ⟨a, cap, ha, hh, hc, hm⟩ := h.s
  by_cases hz : bs.length = 0
  · have hz' : ((bs.length : Int) == 0) = true := beq_iff_eq.2 (by omega)
    clear hz hs
    go_enter Try.func31, Try.ntmps31
    go_wp2_with fail
    (try simp only [Exit.inBlock, Exit.then]); refine bodyPost_ret (results_none rfl _ _ _) rfl ?_
    exact ⟨rfl, ⟨bs, h.kill⟩, below_set _ _ _ _⟩
  · have hz' : ((bs.length : Int) == 0) = false := beq_eq_false_iff_ne.2 (by omega)
    rcases hs with rfl | rfl
    · simp at hz
    · clear hz
      go_enter Try.func31, Try.ntmps31
      go_wp2_with fail
      (try simp only [Exit.inBlock, Exit.then]); refine bodyPost_ret (results_none rfl _ _ _) rfl ?_
      exact ⟨rfl, ⟨bs, h.kill⟩, below_set _ _ _ _⟩

/-- The cursor behind a 'need'. -/
theorem curO_need {w' : World} {bc : Nat} {s bs : List Int} (h : Cur w' bc (litR true s bs) (litB true s bs)) : CurO w' bc (needP s bs) := by
  unfold needP
  cases hs : starts s bs with
  | true =>
    have : litB true s bs = true := by simp [litB, hs]
    rw [this] at h
    simp only [litR, this, if_true] at h
    exact h
  | false =>
    have : litB true s bs = false := by simp [litB, hs]
    rw [this] at h
    exact ⟨_, h⟩

theorem curO_str {w' : World} {bc : Nat} {bs : List Int} (h : Cur w' bc (strR true bs) (strOk true bs)) : CurO w' bc (strP bs) := by
  unfold strP
  cases hs : strOk true bs with
  | true => rw [hs] at h; exact h
  | false => rw [hs] at h; exact ⟨_, h⟩

set_option maxHeartbeats 1600000 in
theorem value_leaf {w : World} {bc : Nat} {bs : List Int} (d : Int) (h : Cur w bc bs true) (hd : (d == 32) = false) (hne : 0 < bs.length) (c : Int) (hc : c = bs.getD 0 0) (h1 : c ≠ 123) (h2 : c ≠ 91) :
    Calls Try.prog 31 #[.pointer (some ⟨bc, 0, none⟩), .int .i64 d] w fun e w' => e = .returned (.tuple #[]) ∧ CurO w' bc (leaf c bs) ∧ Below bc w w' := by
  obtain ⟨a, cap, ha, hh, hlc, hm⟩ := h.s
  have g1 := h.o
  have hz : ((bs.length : Int) == 0) = false := beq_eq_false_iff_ne.2 (by omega)
  rcases hh with rfl | ⟨b, off, rfl, hbb, hcell⟩
  · simp at hne
  have hc0 : w.cell? ⟨b, off, none⟩ = some (.int .u8 (bs.getD 0 0)) := hcell 0 hne
  rw [← hc] at hc0
  have e1 : (c == 123) = false := beq_eq_false_iff_ne.2 h1
  have e2 : (c == 91) = false := beq_eq_false_iff_ne.2 h2
  clear hcell hc h1 h2
  by_cases e3 : c = 34
  · subst e3
    have hl : leaf 34 bs = strP bs := rfl
    rw [hl]
    clear hl
    go_enter Try.func31, Try.ntmps31
    go_wp2_with fail
    refine (str_any h).mono ?_
    rintro e w1 ⟨rfl, hc1, hb1⟩
    go_wp2_with fail
    go_end0
    exact ⟨rfl, curO_str hc1, hb1⟩
  · have e3' : (c == 34) = false := beq_eq_false_iff_ne.2 e3
    by_cases e4 : c = 116
    · subst e4
      have hl : leaf 116 bs = needP [116, 114, 117, 101] bs := rfl
      rw [hl]
      clear hl e3
      go_enter Try.func31, Try.ntmps31
      go_wp2_with fail
      refine (need_any h _).mono ?_
      rintro e w1 ⟨rfl, hc1, hb1⟩
      go_wp2_with fail
      go_end0
      exact ⟨rfl, curO_need hc1, hb1⟩
    · have e4' : (c == 116) = false := beq_eq_false_iff_ne.2 e4
      by_cases e5 : c = 102
      · subst e5
        have hl : leaf 102 bs = needP [102, 97, 108, 115, 101] bs := rfl
        rw [hl]
        clear hl e3 e4
        go_enter Try.func31, Try.ntmps31
        go_wp2_with fail
        refine (need_any h _).mono ?_
        rintro e w1 ⟨rfl, hc1, hb1⟩
        go_wp2_with fail
        go_end0
        exact ⟨rfl, curO_need hc1, hb1⟩
      · have e5' : (c == 102) = false := beq_eq_false_iff_ne.2 e5
        by_cases e6 : c = 110
        · subst e6
          have hl : leaf 110 bs = needP [110, 117, 108, 108] bs := rfl
          rw [hl]
          clear hl e3 e4 e5
          go_enter Try.func31, Try.ntmps31
          go_wp2_with fail
          refine (need_any h _).mono ?_
          rintro e w1 ⟨rfl, hc1, hb1⟩
          go_wp2_with fail
          go_end0
          exact ⟨rfl, curO_need hc1, hb1⟩
        · have e6' : (c == 110) = false := beq_eq_false_iff_ne.2 e6
          have hl : leaf c bs = intP bs := by
            unfold leaf
            rw [if_neg e3, if_neg e4, if_neg e5, if_neg e6]
          rw [hl]
          clear hl e3 e4 e5 e6
          go_enter Try.func31, Try.ntmps31
          go_wp2_with fail
          refine (int_any h).mono ?_
          rintro e w1 ⟨rfl, hc1, hb1⟩
          go_wp2_with fail
          go_end0
          exact ⟨rfl, hc1, hb1⟩
end Go.Proofs.Qxb6600744a
