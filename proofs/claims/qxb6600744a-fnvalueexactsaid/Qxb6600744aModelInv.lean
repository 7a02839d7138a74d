/-
  What modelValue's loop keeps: helpers outside the walk.
-/
import Derived.Test.Qxb6600744aNumber
import Derived.Test.Qxb6600744aPlainModel
import Derived.Test.Qxb6600744aNests
namespace Go.Proofs.Qxb6600744a
open Go.RowKit

/-! ### lengths and suffixes -/
theorem drop_self {rs y : List Int} {j : Nat} (h : y = rs.drop j) : y = rs.drop (rs.length - y.length) := by
  subst h
  rw [List.length_drop]
  by_cases hj : j ≤ rs.length
  · congr 1; omega
  · rw [List.drop_of_length_le (by omega), List.drop_of_length_le (by omega)]

theorem strP_drop {rs y : List Int} (h : strP rs = some y) : y = rs.drop (rs.length - y.length) := by
  unfold strP at h
  split at h
  · rename_i hok
    cases h
    have e : strR true rs = rs.drop (1 + ((sf (rs.drop 1)).length + 1)) := by
      unfold strR
      rw [if_pos hok, List.drop_drop]
    exact drop_self e
  · cases h

theorem needP_drop {s rs y : List Int} (h : needP s rs = some y) : y = rs.drop (rs.length - y.length) := by
  unfold needP at h
  split at h
  · cases h; exact drop_self rfl
  · cases h

theorem intP_drop {rs y : List Int} (h : intP rs = some y) : y = rs.drop (rs.length - y.length) := by
  unfold intP digR at h
  split at h
  · cases h
  · cases h
    unfold litR
    split
    · rw [List.drop_drop]; exact drop_self rfl
    · exact drop_self rfl

theorem leaf_drop {c : Int} {rs y : List Int} (h : leaf c rs = some y) : y = rs.drop (rs.length - y.length) := by
  unfold leaf at h
  split at h
  · exact strP_drop h
  · split at h
    · exact needP_drop h
    · split at h
      · exact needP_drop h
      · split at h
        · exact needP_drop h
        · exact intP_drop h

theorem qlen_lenO (bs : List Int) : qlen bs = lenO bs (strP bs) := by
  cases h : strOk true bs with
  | false => simp [qlen, strP, h, lenO]
  | true =>
    have hs : strP bs = some (strR true bs) := by simp [strP, h]
    rw [hs]
    have hcl : closes (bs.drop 1) = true := by
      unfold strOk at h
      cases hq : closes (bs.drop 1) with
      | true => rfl
      | false => rw [hq] at h; simp at h
    have hlt := closes_lt hcl
    rw [List.length_drop] at hlt
    have e : (strR true bs).length = bs.length - 1 - ((sf (bs.drop 1)).length + 1) := by
      unfold strR
      rw [if_pos h, List.length_drop, List.length_drop]
    simp only [lenO, qlen, h, if_true]
    omega

theorem leaf34 (rs : List Int) : leaf 34 rs = strP rs := rfl
theorem leaf_other {c : Int} (rs : List Int) (h1 : c ≠ 34) (h2 : c ≠ 116) (h3 : c ≠ 102) (h4 : c ≠ 110) : leaf c rs = intP rs := by
  unfold leaf
  rw [if_neg h1, if_neg h2, if_neg h3, if_neg h4]

theorem drop_cons {bs : List Int} {p : Nat} (h : p < bs.length) : bs.drop p = bs.getD p 0 :: bs.drop (p + 1) := by
  rw [List.drop_eq_getElem_cons h]
  simp [List.getD, List.getElem?_eq_getElem h]

/-- What a leaf's length says of the place behind it. -/
theorem place_of {bs y : List Int} {p : Nat} (hp : p ≤ bs.length) (hy : y = (bs.drop p).drop ((bs.drop p).length - y.length)) (hl : y.length ≤ (bs.drop p).length) :
    ∃ m : Nat, p + m ≤ bs.length ∧ ((bs.drop p).length : Int) - (y.length : Int) = (m : Int) ∧ y = bs.drop (p + m) := by
  rw [List.length_drop] at hl
  refine ⟨bs.length - p - y.length, by omega, by rw [List.length_drop]; omega, ?_⟩
  rw [List.drop_drop, List.length_drop] at hy
  exact hy

/-! ### the stack of open signs, in memory -/
def Stk (base : Nat) (w : World) (v : Value) (stk : List Int) : Prop := w.ownsRow base 5 1 v stk.length (stk.reverse.map (Value.int .u8))

theorem Stk.form {base : Nat} {w : World} {v : Value} {stk : List Int} (h : Stk base w v stk) : ∃ av cv, v = .slice av stk.length cv := by
  rcases h.2 with ⟨rfl, h0⟩ | ⟨g, cap, _, rfl, _⟩
  · exact ⟨none, 0, by rw [h0]⟩
  · exact ⟨_, _, rfl⟩

theorem Stk.cons {base : Nat} {w : World} {v : Value} {t : Int} {tl : List Int} (h : Stk base w v (t :: tl)) :
    ∃ g cv, v = .slice (some ⟨g, 0, none⟩) (tl.length + 1) cv ∧ w.cell? ⟨g, tl.length, none⟩ = some (.int .u8 t) ∧ tl.length + 1 ≤ cv ∧ cv ≤ maxLen ∧ Stk base w (.slice (some ⟨g, 0, none⟩) tl.length cv) tl := by
  have h0 := h
  obtain ⟨h1, h2⟩ := h
  rcases h2 with ⟨_, hz⟩ | ⟨g, cap, cur, rfl, hb, hg, hn, hm, hsz, htk⟩
  · simp at hz
  · simp only [List.length_cons] at hn htk ⊢
    have hc := World.ownsRow.cells h0 (g := g) rfl tl.length (.int .u8 t) (by simp)
    rw [Go.WideShapes.add_plain, Nat.zero_add] at hc
    refine ⟨g, cap, rfl, hc, hn, hm, ?_, .inr ⟨g, cap, cur, rfl, hb, hg, by omega, hm, hsz, ?_⟩⟩
    · simp
    · have e : cur.toList.take (tl.length * 1) = (cur.toList.take ((tl.length + 1) * 1)).take tl.length := by
        rw [List.take_take]
        congr 1
        omega
      rw [e, htk]
      simp

theorem Stk.push {base : Nat} {w : World} {v : Value} {c : Int} {stk : List Int} (h : w.ownsRow base 5 1 v (stk.length + 1) (stk.reverse.map (Value.int .u8) ++ [.int .u8 c])) : Stk base w v (c :: stk) := by
  unfold Stk
  simpa using h

theorem Stk.nil (base : Nat) (w : World) : Stk base w (.slice none 0 0) [] := World.ownsRow_nil _ _ _ _

theorem Stk.own {base : Nat} {w : World} {v : Value} {stk : List Int} (h : Stk base w v stk) : ∀ k, v.ownBlock = some k → base ≤ k := fun k hk => (World.ownsRow.lt h k hk).1

/-! ### the loop's state -/
structure MI (base : Nat) (w0 : World) (bs : List Int) (L : Int) (R : Option (List Int)) (k st p : Nat) (stk : List Int) (v : Value) (wr : World) : Prop where
  run : ∃ n, k + n = bs.length + 2 ∧ R = mrun L n st stk (bs.drop p)
  hp : p ≤ bs.length
  hst : st ≤ 2
  hs : Stk base wr v stk
  hlen : stk.length ≤ k
  hall : ∀ x ∈ stk, x = 93 ∨ x = 125
  hb : Below base w0 wr

theorem MI.next {base : Nat} {w0 wr wr' : World} {bs stk stk' : List Int} {L : Int} {R : Option (List Int)} {k st st' p p' : Nat} {v v' : Value} (h : MI base w0 bs L R k st p stk v wr) (hk : k ≤ bs.length + 1)
    (hm : mstep L st stk (bs.drop p) = .inr (st', stk', bs.drop p')) (hp : p' ≤ bs.length) (hst : st' ≤ 2) (hs : Stk base wr' v' stk') (hl : stk'.length ≤ stk.length + 1) (ha : ∀ x ∈ stk', x = 93 ∨ x = 125) (hb : Below base wr wr') :
    MI base w0 bs L R (k + 1) st' p' stk' v' wr' := by
  obtain ⟨n, hn, hR⟩ := h.run
  obtain ⟨n, rfl⟩ : ∃ n', n = n' + 1 := ⟨n - 1, by omega⟩
  have := h.hlen
  refine ⟨⟨n, by omega, by rw [hR, mrun_step hm]⟩, hp, hst, hs, by omega, ha, h.hb.trans hb⟩

theorem MI.reject {base : Nat} {w0 wr : World} {bs stk : List Int} {L : Int} {R : Option (List Int)} {k st p : Nat} {v : Value} (h : MI base w0 bs L R k st p stk v wr) (hm : mstep L st stk (bs.drop p) = .inl false) : R = none := by
  obtain ⟨n, _, hR⟩ := h.run
  rw [hR, mrun_rej hm]

theorem MI.over {base : Nat} {w0 wr : World} {bs stk : List Int} {L : Int} {R : Option (List Int)} {k st p : Nat} {v : Value} (h : MI base w0 bs L R k st p stk v wr) (hk : ¬ k ≤ bs.length + 1) : R = none := by
  obtain ⟨n, hn, hR⟩ := h.run
  obtain rfl : n = 0 := by omega
  rw [hR]
  rfl

theorem MI.accept {base : Nat} {w0 wr : World} {bs stk : List Int} {L : Int} {R : Option (List Int)} {k st p : Nat} {v : Value} (h : MI base w0 bs L R k st p stk v wr) (hk : k ≤ bs.length + 1) (hm : mstep L st stk (bs.drop p) = .inl true) : R = some (bs.drop p) := by
  obtain ⟨n, hn, hR⟩ := h.run
  obtain ⟨n, rfl⟩ : ∃ n', n = n' + 1 := ⟨n - 1, by omega⟩
  rw [hR, mrun, hm]

/-- How many bytes modelValue says were used. -/
def usedO (bs : List Int) : Option (List Int) → Int
  | none => 0
  | some r => (bs.length : Int) - (r.length : Int)
end Go.Proofs.Qxb6600744a
