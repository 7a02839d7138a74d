/-
  What the cursor's value reads, as a plain function with fuel. Tags: 0 a value, 1 and 2 an array behind its bracket (2: behind an item), 3 and 4 an object.
-/
import Derived.Test.Qxb6600744aInteger
namespace Go.Proofs.Qxb6600744a

def strP (bs : List Int) : Option (List Int) := if strOk true bs then some (strR true bs) else none
def needP (s bs : List Int) : Option (List Int) := if starts s bs then some (bs.drop s.length) else none
/-- depth + 1, as an int has it. -/
def wd (d : Int) : Int := if d = 9223372036854775807 then -9223372036854775808 else d + 1

/-- A value that is neither an array nor an object. -/
def leaf (c : Int) (bs : List Int) : Option (List Int) :=
  if c = 34 then strP bs else if c = 116 then needP [116, 114, 117, 101] bs else if c = 102 then needP [102, 97, 108, 115, 101] bs
  else if c = 110 then needP [110, 117, 108, 108] bs else intP bs

def rd : Nat → Nat → Int → List Int → Option (List Int)
  | 0, _, _, _ => none
  | f + 1, 0, d, bs => if d = 32 then none else match bs with
    | [] => none
    | c :: r => if c = 123 then rd f 3 d r else if c = 91 then rd f 1 d r else leaf c (c :: r)
  | f + 1, 1, d, bs => if starts [93] bs then some (bs.drop 1) else (rd f 0 (wd d) bs).bind (rd f 2 d)
  | f + 1, 2, d, bs => if starts [93] bs then some (bs.drop 1) else (needP [44] bs).bind fun r => (rd f 0 (wd d) r).bind (rd f 2 d)
  | f + 1, 3, d, bs => if starts [125] bs then some (bs.drop 1) else (strP bs).bind fun r => (needP [58] r).bind fun r => (rd f 0 (wd d) r).bind (rd f 4 d)
  | f + 1, 4, d, bs => if starts [125] bs then some (bs.drop 1) else (needP [44] bs).bind fun r => (strP r).bind fun r => (needP [58] r).bind fun r => (rd f 0 (wd d) r).bind (rd f 4 d)
  | _ + 1, _ + 5, _, _ => none

theorem rd0 (f : Nat) (d : Int) (bs : List Int) : rd (f + 1) 0 d bs = if d = 32 then none else match bs with
    | [] => none
    | c :: r => if c = 123 then rd f 3 d r else if c = 91 then rd f 1 d r else leaf c (c :: r) := rfl
theorem rd1 (f : Nat) (d : Int) (bs : List Int) : rd (f + 1) 1 d bs = if starts [93] bs then some (bs.drop 1) else (rd f 0 (wd d) bs).bind (rd f 2 d) := rfl
theorem rd2 (f : Nat) (d : Int) (bs : List Int) : rd (f + 1) 2 d bs = if starts [93] bs then some (bs.drop 1) else (needP [44] bs).bind fun r => (rd f 0 (wd d) r).bind (rd f 2 d) := rfl
theorem rd3 (f : Nat) (d : Int) (bs : List Int) : rd (f + 1) 3 d bs = if starts [125] bs then some (bs.drop 1) else (strP bs).bind fun r => (needP [58] r).bind fun r => (rd f 0 (wd d) r).bind (rd f 4 d) := rfl
theorem rd4 (f : Nat) (d : Int) (bs : List Int) : rd (f + 1) 4 d bs = if starts [125] bs then some (bs.drop 1) else (needP [44] bs).bind fun r => (strP r).bind fun r => (needP [58] r).bind fun r => (rd f 0 (wd d) r).bind (rd f 4 d) := rfl

theorem starts_len {s bs : List Int} (h : starts s bs = true) : s.length ≤ bs.length := by
  unfold starts at h
  have := congrArg List.length (of_decide_eq_true h)
  rw [List.length_take] at this
  omega

theorem needP_len {s bs r : List Int} (h : needP s bs = some r) (hs : 0 < s.length) : r.length < bs.length := by
  unfold needP at h
  split at h
  · rename_i hst
    have := starts_len hst
    cases h
    rw [List.length_drop]
    omega
  · cases h

theorem strP_len {bs r : List Int} (h : strP bs = some r) : r.length < bs.length := by
  unfold strP at h
  split at h
  · rename_i hok
    cases h
    have hl : starts [34] bs = true := by
      unfold strOk litB at hok
      simp at hok
      exact hok.1
    have := starts_len hl
    simp only [List.length_cons, List.length_nil] at this
    unfold strR
    rw [if_pos hok, List.length_drop, List.length_drop]
    omega
  · cases h

theorem litR_len (s bs : List Int) : (litR true s bs).length ≤ bs.length := by
  unfold litR
  split
  · rw [List.length_drop]; omega
  · exact Nat.le_refl _

theorem intP_len {bs r : List Int} (h : intP bs = some r) : r.length < bs.length := by
  unfold intP digR at h
  split at h
  · cases h
  · rename_i hn
    cases h
    have h1 := litR_len [45] bs
    have h2 := dg_le (litR true [45] bs)
    rw [List.length_drop]
    omega

theorem leaf_len {c : Int} {bs r : List Int} (h : leaf c bs = some r) : r.length < bs.length := by
  unfold leaf at h
  split at h
  · exact strP_len h
  · split at h
    · exact needP_len h (by simp)
    · split at h
      · exact needP_len h (by simp)
      · split at h
        · exact needP_len h (by simp)
        · exact intP_len h

theorem bind_some {α β : Type} {o : Option α} {g : α → Option β} {y : β} (h : o.bind g = some y) : ∃ x, o = some x ∧ g x = some y := by
  cases o with
  | none => cases h
  | some x => exact ⟨x, rfl, h⟩

/-- Whatever is read is shorter than what was there. -/
theorem rd_len : ∀ (f t : Nat) (d : Int) (bs r : List Int), rd f t d bs = some r → r.length < bs.length
  | 0, _, _, _, _, h => by cases h
  | f + 1, 0, d, bs, r, h => by
    rw [rd0] at h
    split at h
    · cases h
    · split at h
      · cases h
      · split at h
        · have := rd_len f 3 d _ r h; simp; omega
        · split at h
          · have := rd_len f 1 d _ r h; simp; omega
          · exact leaf_len h
  | f + 1, 1, d, bs, r, h => by
    rw [rd1] at h
    split at h
    · rename_i hst
      have := starts_len hst
      cases h
      simp at this
      simp; omega
    · obtain ⟨x, h1, h2⟩ := bind_some h
      have := rd_len f 0 _ _ _ h1
      have := rd_len f 2 _ _ _ h2
      omega
  | f + 1, 2, d, bs, r, h => by
    rw [rd2] at h
    split at h
    · rename_i hst
      have := starts_len hst
      cases h
      simp at this
      simp; omega
    · obtain ⟨y, h0, h⟩ := bind_some h
      obtain ⟨x, h1, h2⟩ := bind_some h
      have := needP_len h0 (by simp)
      have := rd_len f 0 _ _ _ h1
      have := rd_len f 2 _ _ _ h2
      omega
  | f + 1, 3, d, bs, r, h => by
    rw [rd3] at h
    split at h
    · rename_i hst
      have := starts_len hst
      cases h
      simp at this
      simp; omega
    · obtain ⟨y, h0, h⟩ := bind_some h
      obtain ⟨z, h3, h⟩ := bind_some h
      obtain ⟨x, h1, h2⟩ := bind_some h
      have := strP_len h0
      have := needP_len h3 (by simp)
      have := rd_len f 0 _ _ _ h1
      have := rd_len f 4 _ _ _ h2
      omega
  | f + 1, 4, d, bs, r, h => by
    rw [rd4] at h
    split at h
    · rename_i hst
      have := starts_len hst
      cases h
      simp at this
      simp; omega
    · obtain ⟨u, h4, h⟩ := bind_some h
      obtain ⟨y, h0, h⟩ := bind_some h
      obtain ⟨z, h3, h⟩ := bind_some h
      obtain ⟨x, h1, h2⟩ := bind_some h
      have := needP_len h4 (by simp)
      have := strP_len h0
      have := needP_len h3 (by simp)
      have := rd_len f 0 _ _ _ h1
      have := rd_len f 4 _ _ _ h2
      omega
  | _ + 1, _ + 5, _, _, _, h => by cases h
end Go.Proofs.Qxb6600744a
