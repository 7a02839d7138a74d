/-
  Plain functions for quoted text.
-/
import Derived.Test.Qxb6600744aPlain
namespace Go.Proofs.Qxb6600744a

theorem tw_le (p : Int → Bool) (bs : List Int) : (bs.takeWhile p).length ≤ bs.length := (List.takeWhile_prefix (p := p) (l := bs)).length_le

theorem tw_take (p : Int → Bool) (bs : List Int) : bs.takeWhile p = bs.take (bs.takeWhile p).length :=
  List.prefix_iff_eq_take.1 (List.takeWhile_prefix (p := p) (l := bs))

theorem tw_all (p : Int → Bool) (bs : List Int) : ∀ c ∈ bs.takeWhile p, p c = true := fun c hc => by
  have := List.all_takeWhile (p := p) (l := bs)
  rw [List.all_eq_true] at this
  exact this c hc

/-- The first k fit p, and k is not the end: does the next fit? -/
theorem tw_step (p : Int → Bool) {bs : List Int} {k : Nat} (h : k ≤ (bs.takeWhile p).length) (hk : k < bs.length) : p (bs.getD k 0) = decide (k < (bs.takeWhile p).length) := by
  induction bs generalizing k with
  | nil => simp at hk
  | cons c l ih =>
    by_cases hc : p c = true
    · have e : (c :: l).takeWhile p = c :: l.takeWhile p := by simp [hc]
      rw [e] at h ⊢
      cases k with
      | zero => simp [hc]
      | succ k =>
        simp only [List.length_cons] at h hk ⊢
        have := ih (k := k) (by omega) (by omega)
        simp only [List.getD_cons_succ, this]
        rw [decide_eq_decide]; omega
    · have e : (c :: l).takeWhile p = [] := by simp [hc]
      rw [e] at h ⊢
      have : k = 0 := by simpa using h
      subst this
      simp at hc
      simp [hc]

theorem tw_end (p : Int → Bool) {bs : List Int} {k : Nat} (h : k ≤ (bs.takeWhile p).length) (hk : k < bs.length) (hp : p (bs.getD k 0) = false) : k = (bs.takeWhile p).length := by
  have := tw_step p h hk
  rw [hp] at this
  have := of_decide_eq_false this.symm
  omega

theorem tw_next (p : Int → Bool) {bs : List Int} {k : Nat} (h : k ≤ (bs.takeWhile p).length) (hk : k < bs.length) (hp : p (bs.getD k 0) = true) : k + 1 ≤ (bs.takeWhile p).length := by
  have := tw_step p h hk
  rw [hp] at this
  exact of_decide_eq_true this.symm

theorem tw_over (p : Int → Bool) {bs : List Int} {k : Nat} (h : k ≤ (bs.takeWhile p).length) (hk : ¬ k < bs.length) : k = (bs.takeWhile p).length := by
  have := tw_le p bs
  omega

/-- The leading bytes that are not escaped. -/
def sf (bs : List Int) : List Int := bs.takeWhile safe

/-- Behind the opening quote: is the text closed before anything that is escaped? -/
def closes (bs : List Int) : Bool := decide (bs.getD (sf bs).length 0 = 34)

end Go.Proofs.Qxb6600744a
