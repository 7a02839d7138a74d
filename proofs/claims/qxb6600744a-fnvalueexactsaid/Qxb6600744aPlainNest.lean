/-
  The plain law of nesting: what is read whole is read whole inside an array and inside an object.
-/
import Derived.Test.Qxb6600744aPlainValue
namespace Go.Proofs.Qxb6600744a

theorem starts_app {s bs : List Int} (tl : List Int) (h : starts s bs = true) : starts s (bs ++ tl) = true := by
  have hl := starts_len h
  unfold starts at h ⊢
  have := of_decide_eq_true h
  apply decide_eq_true
  rw [List.take_append_of_le_length hl]
  exact this

theorem starts_one (c : Int) {bs : List Int} (tl : List Int) (h : 0 < bs.length) : starts [c] (bs ++ tl) = starts [c] bs := by
  cases bs with
  | nil => simp at h
  | cons x r => unfold starts; simp

theorem needP_ext {s bs r : List Int} (tl : List Int) (h : needP s bs = some r) : needP s (bs ++ tl) = some (r ++ tl) := by
  unfold needP at h ⊢
  split at h
  · rename_i hst
    cases h
    rw [if_pos (starts_app tl hst), List.drop_append_of_le_length (starts_len hst)]
  · cases h

theorem tw_app (p : Int → Bool) (x tl : List Int) (h : (x.takeWhile p).length < x.length ∨ tl.takeWhile p = []) : (x ++ tl).takeWhile p = x.takeWhile p := by
  induction x with
  | nil =>
    rcases h with h | h
    · simp at h
    · simpa using h
  | cons c x ih =>
    rw [List.cons_append]
    by_cases hc : p c = true
    · rw [List.takeWhile_cons_of_pos hc, List.takeWhile_cons_of_pos hc]
      congr 1
      apply ih
      rcases h with h | h
      · left
        rw [List.takeWhile_cons_of_pos hc] at h
        simpa using h
      · exact .inr h
    · rw [List.takeWhile_cons_of_neg hc, List.takeWhile_cons_of_neg hc]

theorem closes_lt {x : List Int} (h : closes x = true) : (sf x).length < x.length := by
  unfold closes at h
  have hq := of_decide_eq_true h
  rcases Nat.lt_or_ge (sf x).length x.length with h2 | h2
  · exact h2
  · rw [List.getD, List.getElem?_eq_none h2] at hq
    simp at hq

theorem strP_ext {bs r : List Int} (tl : List Int) (h : strP bs = some r) : strP (bs ++ tl) = some (r ++ tl) := by
  unfold strP at h ⊢
  split at h
  · rename_i hok
    cases h
    cases bs with
    | nil => exact absurd hok (by decide)
    | cons c x =>
      have hb : starts [34] (c :: x) = true ∧ closes x = true := by
        unfold strOk litB at hok
        simpa using hok
      have hlt := closes_lt hb.2
      have hsf : sf (x ++ tl) = sf x := tw_app safe x tl (.inl hlt)
      have hcl : closes (x ++ tl) = true := by
        have h2 := hb.2
        unfold closes at h2 ⊢
        rw [hsf]
        have e : (x ++ tl).getD (sf x).length 0 = x.getD (sf x).length 0 := by simp only [List.getD, List.getElem?_append_left hlt]
        rw [e]
        exact h2
      have hok2 : strOk true (c :: x ++ tl) = true := by
        unfold strOk litB
        rw [starts_app tl hb.1]
        simpa using hcl
      rw [if_pos hok2]
      unfold strR
      rw [if_pos hok, if_pos hok2]
      simp only [List.cons_append, List.drop_one, List.tail_cons]
      rw [hsf, List.drop_append_of_le_length (by omega)]
  · cases h

theorem digR_ext {x r : List Int} (tl : List Int) (ht : dg tl = []) (h : digR x = some r) : digR (x ++ tl) = some (r ++ tl) := by
  unfold digR at h ⊢
  split at h
  · cases h
  · rename_i hn
    cases h
    have hdg : dg (x ++ tl) = dg x := tw_app isDig x tl (.inr ht)
    have hle := dg_le x
    have h0 : 0 < x.length := by omega
    have e : (x ++ tl).getD 0 0 = x.getD 0 0 := by simp only [List.getD, List.getElem?_append_left h0]
    rw [hdg, e, if_neg hn, List.drop_append_of_le_length hle]

theorem intP_ext {bs r : List Int} (tl : List Int) (ht : dg tl = []) (h : intP bs = some r) : intP (bs ++ tl) = some (r ++ tl) := by
  have h0 : 0 < bs.length := by have := intP_len h; omega
  unfold intP at h ⊢
  have e : litR true [45] (bs ++ tl) = litR true [45] bs ++ tl := by
    unfold litR litB
    rw [starts_one 45 tl h0]
    cases hs : starts [45] bs with
    | true =>
      simp only [Bool.and_self, if_true]
      rw [List.drop_append_of_le_length (by simp; omega)]
    | false => simp
  rw [e]
  exact digR_ext tl ht h

theorem leaf_ext {c : Int} {bs r : List Int} (tl : List Int) (ht : dg tl = []) (h : leaf c bs = some r) : leaf c (bs ++ tl) = some (r ++ tl) := by
  unfold leaf at h ⊢
  split at h
  · rename_i h1; rw [if_pos h1]; exact strP_ext tl h
  · rename_i h1
    rw [if_neg h1]
    split at h
    · rename_i h2; rw [if_pos h2]; exact needP_ext tl h
    · rename_i h2
      rw [if_neg h2]
      split at h
      · rename_i h3; rw [if_pos h3]; exact needP_ext tl h
      · rename_i h3
        rw [if_neg h3]
        split at h
        · rename_i h4; rw [if_pos h4]; exact needP_ext tl h
        · rename_i h4; rw [if_neg h4]; exact intP_ext tl ht h

/-- What stands behind does not turn what is read, if it opens with no digit. -/
theorem rd_ext (tl : List Int) (ht : dg tl = []) : ∀ (f t : Nat) (d : Int) (bs r : List Int), rd f t d bs = some r → rd f t d (bs ++ tl) = some (r ++ tl)
  | 0, _, _, _, _, h => by cases h
  | f + 1, 0, d, bs, r, h => by
    rw [rd0] at h ⊢
    split at h
    · cases h
    · rename_i hd
      rw [if_neg hd]
      split at h
      · cases h
      · rename_i c x
        rw [List.cons_append]
        split at h
        · rename_i h1
          simp only [if_pos h1]
          exact rd_ext tl ht f 3 d _ _ h
        · rename_i h1
          split at h
          · rename_i h2
            simp only [if_neg h1, if_pos h2]
            exact rd_ext tl ht f 1 d _ _ h
          · rename_i h2
            simp only [if_neg h1, if_neg h2]
            exact leaf_ext tl ht h
  | f + 1, 1, d, bs, r, h => by
    have h0 : 0 < bs.length := by have := rd_len _ _ _ _ _ h; omega
    rw [rd1] at h ⊢
    rw [starts_one 93 tl h0]
    split at h
    · rename_i hs
      cases h
      rw [if_pos hs, List.drop_append_of_le_length (by omega)]
    · rename_i hs
      obtain ⟨x, h1, h2⟩ := bind_some h
      rw [if_neg hs, rd_ext tl ht f 0 _ _ _ h1]
      exact rd_ext tl ht f 2 _ _ _ h2
  | f + 1, 2, d, bs, r, h => by
    have h0 : 0 < bs.length := by have := rd_len _ _ _ _ _ h; omega
    rw [rd2] at h ⊢
    rw [starts_one 93 tl h0]
    split at h
    · rename_i hs
      cases h
      rw [if_pos hs, List.drop_append_of_le_length (by omega)]
    · rename_i hs
      obtain ⟨y, h3, h⟩ := bind_some h
      obtain ⟨x, h1, h2⟩ := bind_some h
      rw [if_neg hs, needP_ext tl h3]
      simp only [Option.bind_some]
      rw [rd_ext tl ht f 0 _ _ _ h1]
      exact rd_ext tl ht f 2 _ _ _ h2
  | f + 1, 3, d, bs, r, h => by
    have h0 : 0 < bs.length := by have := rd_len _ _ _ _ _ h; omega
    rw [rd3] at h ⊢
    rw [starts_one 125 tl h0]
    split at h
    · rename_i hs
      cases h
      rw [if_pos hs, List.drop_append_of_le_length (by omega)]
    · rename_i hs
      obtain ⟨y, h3, h⟩ := bind_some h
      obtain ⟨z, h4, h⟩ := bind_some h
      obtain ⟨x, h1, h2⟩ := bind_some h
      rw [if_neg hs, strP_ext tl h3]
      simp only [Option.bind_some]
      rw [needP_ext tl h4]
      simp only [Option.bind_some]
      rw [rd_ext tl ht f 0 _ _ _ h1]
      exact rd_ext tl ht f 4 _ _ _ h2
  | f + 1, 4, d, bs, r, h => by
    have h0 : 0 < bs.length := by have := rd_len _ _ _ _ _ h; omega
    rw [rd4] at h ⊢
    rw [starts_one 125 tl h0]
    split at h
    · rename_i hs
      cases h
      rw [if_pos hs, List.drop_append_of_le_length (by omega)]
    · rename_i hs
      obtain ⟨u, h5, h⟩ := bind_some h
      obtain ⟨y, h3, h⟩ := bind_some h
      obtain ⟨z, h4, h⟩ := bind_some h
      obtain ⟨x, h1, h2⟩ := bind_some h
      rw [if_neg hs, needP_ext tl h5]
      simp only [Option.bind_some]
      rw [strP_ext tl h3]
      simp only [Option.bind_some]
      rw [needP_ext tl h4]
      simp only [Option.bind_some]
      rw [rd_ext tl ht f 0 _ _ _ h1]
      exact rd_ext tl ht f 4 _ _ _ h2
  | _ + 1, _ + 5, _, _, _, h => by cases h

/-- More fuel reads the same. -/
theorem rd_more : ∀ (f t : Nat) (d : Int) (bs r : List Int), rd f t d bs = some r → rd (f + 1) t d bs = some r
  | 0, _, _, _, _, h => by cases h
  | f + 1, 0, d, bs, r, h => by
    rw [rd0] at h ⊢
    split at h
    · cases h
    · rename_i hd
      rw [if_neg hd]
      split at h
      · cases h
      · rename_i c x
        split at h
        · rename_i h1
          simp only [if_pos h1]
          exact rd_more f 3 d _ _ h
        · rename_i h1
          split at h
          · rename_i h2
            simp only [if_neg h1, if_pos h2]
            exact rd_more f 1 d _ _ h
          · rename_i h2
            simp only [if_neg h1, if_neg h2]
            exact h
  | f + 1, 1, d, bs, r, h => by
    rw [rd1] at h ⊢
    split at h
    · rename_i hs; rw [if_pos hs]; exact h
    · rename_i hs
      obtain ⟨x, h1, h2⟩ := bind_some h
      rw [if_neg hs, rd_more f 0 _ _ _ h1]
      exact rd_more f 2 _ _ _ h2
  | f + 1, 2, d, bs, r, h => by
    rw [rd2] at h ⊢
    split at h
    · rename_i hs; rw [if_pos hs]; exact h
    · rename_i hs
      obtain ⟨y, h3, h⟩ := bind_some h
      obtain ⟨x, h1, h2⟩ := bind_some h
      rw [if_neg hs, h3]
      simp only [Option.bind_some]
      rw [rd_more f 0 _ _ _ h1]
      exact rd_more f 2 _ _ _ h2
  | f + 1, 3, d, bs, r, h => by
    rw [rd3] at h ⊢
    split at h
    · rename_i hs; rw [if_pos hs]; exact h
    · rename_i hs
      obtain ⟨y, h3, h⟩ := bind_some h
      obtain ⟨z, h4, h⟩ := bind_some h
      obtain ⟨x, h1, h2⟩ := bind_some h
      rw [if_neg hs, h3]
      simp only [Option.bind_some]
      rw [h4]
      simp only [Option.bind_some]
      rw [rd_more f 0 _ _ _ h1]
      exact rd_more f 4 _ _ _ h2
  | f + 1, 4, d, bs, r, h => by
    rw [rd4] at h ⊢
    split at h
    · rename_i hs; rw [if_pos hs]; exact h
    · rename_i hs
      obtain ⟨u, h5, h⟩ := bind_some h
      obtain ⟨y, h3, h⟩ := bind_some h
      obtain ⟨z, h4, h⟩ := bind_some h
      obtain ⟨x, h1, h2⟩ := bind_some h
      rw [if_neg hs, h5]
      simp only [Option.bind_some]
      rw [h3]
      simp only [Option.bind_some]
      rw [h4]
      simp only [Option.bind_some]
      rw [rd_more f 0 _ _ _ h1]
      exact rd_more f 4 _ _ _ h2
  | _ + 1, _ + 5, _, _, _, h => by cases h

theorem rd_le {f g t : Nat} {d : Int} {bs r : List Int} (hfg : f ≤ g) (h : rd f t d bs = some r) : rd g t d bs = some r := by
  induction g with
  | zero =>
    have : f = 0 := by omega
    subst this; exact h
  | succ g ih =>
    by_cases e : f = g + 1
    · subst e; exact h
    · exact rd_more _ _ _ _ _ (ih (by omega))

/-- A value opens with neither closing sign. -/
theorem rd_head {f : Nat} {d c : Int} {x r : List Int} (h : rd f 0 d (c :: x) = some r) : c ≠ 93 ∧ c ≠ 125 := by
  cases f with
  | zero => cases h
  | succ f =>
    rw [rd0] at h
    split at h
    · cases h
    · constructor
      · intro hc
        subst hc
        have : leaf 93 (93 :: x) = none := by
          show intP (93 :: x) = none
          unfold intP litR litB starts digR dg
          simp [isDig]
        simp [this] at h
      · intro hc
        subst hc
        have : leaf 125 (125 :: x) = none := by
          show intP (125 :: x) = none
          unfold intP litR litB starts digR dg
          simp [isDig]
        simp [this] at h

theorem rd_ne {f : Nat} {d : Int} {bs r : List Int} (h : rd f 0 d bs = some r) : ∃ c x, bs = c :: x ∧ c ≠ 93 ∧ c ≠ 125 := by
  cases bs with
  | nil => have := rd_len _ _ _ _ _ h; simp at this
  | cons c x => exact ⟨c, x, rfl, rd_head h⟩

theorem starts_cons (c x : Int) (r : List Int) : starts [c] (x :: r) = decide (x = c) := by unfold starts; simp

theorem nest_arr {f : Nat} {d : Int} {b : List Int} (hd : d ≠ 32) (h : rd f 0 (wd d) b = some []) : rd (f + 4) 0 d (91 :: (b ++ (44 :: (b ++ [93])))) = some [] := by
  obtain ⟨c, x, rfl, hc1, _⟩ := rd_ne h
  have t1 : dg (44 :: ((c :: x) ++ [93])) = [] := by simp [dg, isDig]
  have t2 : dg [93] = [] := by simp [dg, isDig]
  have e1 := rd_ext _ t1 _ _ _ _ _ (rd_le (show f ≤ f + 2 by omega) h)
  have e2 := rd_ext _ t2 _ _ _ _ _ (rd_le (show f ≤ f + 1 by omega) h)
  rw [rd0, if_neg hd]
  simp only [if_neg (show ¬ (91 : Int) = 123 by decide), if_true]
  rw [rd1, List.cons_append, starts_cons, decide_eq_false hc1]
  rw [List.cons_append] at e1
  simp only [Bool.false_eq_true, if_false]
  rw [e1]
  simp only [Option.bind_some, List.nil_append]
  rw [rd2, starts_cons, decide_eq_false (by decide)]
  simp only [Bool.false_eq_true, if_false]
  have e3 : needP [44] (44 :: ((c :: x) ++ [93])) = some ((c :: x) ++ [93]) := by simp [needP, starts]
  rw [e3]
  simp only [Option.bind_some]
  rw [e2]
  simp only [Option.bind_some, List.nil_append]
  rw [show f + 1 = f + 1 from rfl, rd2, starts_cons, decide_eq_true rfl]
  simp

theorem nest_obj {f : Nat} {d : Int} {b key : List Int} (hd : d ≠ 32) (hk : ∀ c ∈ key, safe c = true) (h : rd f 0 (wd d) b = some []) : rd (f + 4) 0 d (123 :: 34 :: (key ++ (34 :: 58 :: (b ++ [125])))) = some [] := by
  have t2 : dg [125] = [] := by simp [dg, isDig]
  have e2 := rd_ext _ t2 _ _ _ _ _ (rd_le (show f ≤ f + 2 by omega) h)
  rw [rd0, if_neg hd]
  simp only [if_true]
  rw [rd3, starts_cons, decide_eq_false (by decide)]
  simp only [Bool.false_eq_true, if_false]
  have hs : sf (key ++ (34 :: 58 :: (b ++ [125]))) = key := by
    unfold sf
    rw [List.takeWhile_append_of_pos hk]
    have : safe 34 = false := by decide
    simp [this]
  have hok : strOk true (34 :: (key ++ (34 :: 58 :: (b ++ [125])))) = true := by
    unfold strOk closes litB
    rw [starts_cons, List.drop_one, List.tail_cons, hs]
    simp
  have e1 : strP (34 :: (key ++ (34 :: 58 :: (b ++ [125])))) = some (58 :: (b ++ [125])) := by
    simp [strP, hok, strR, hs]
  rw [e1]
  simp only [Option.bind_some]
  have e3 : needP [58] (58 :: (b ++ [125])) = some (b ++ [125]) := by simp [needP, starts]
  rw [e3]
  simp only [Option.bind_some]
  rw [e2]
  simp only [Option.bind_some, List.nil_append]
  rw [rd4, starts_cons, decide_eq_true rfl]
  simp
end Go.Proofs.Qxb6600744a
