/-
  Plain laws on digits: how great a run of digits is; two runs that write one number are one.
-/
import Derived.Test.Qxb6600744aPlainStr
namespace Go.Proofs.Qxb6600744a

def Digits (l : List Int) : Prop := ∀ c ∈ l, isDig c = true

theorem Digits.at {l : List Int} (h : Digits l) {c : Int} (hc : c ∈ l) : 48 ≤ c ∧ c ≤ 57 := by
  have := h c hc
  unfold isDig at this
  exact of_decide_eq_true this

theorem val_app (p q : List Int) : val (p ++ q) = val p * 10 ^ q.length + val q := by
  have := foldl_val q (val p)
  unfold val at this ⊢
  rw [List.foldl_append, this]

theorem pow_pos10 (n : Nat) : (0 : Int) < 10 ^ n := Int.pow_pos (by omega)

theorem val_lt (l : List Int) (h : Digits l) : val l < 10 ^ l.length := by
  induction l with
  | nil => simp [val]
  | cons c l ih =>
    rw [val_cons, List.length_cons, Int.pow_succ]
    have hc := h.at (c := c) (by simp)
    have hl := ih (fun x hx => h x (by simp [hx]))
    have hp := pow_pos10 l.length
    have : (c - 48) * 10 ^ l.length ≤ 9 * 10 ^ l.length := Int.mul_le_mul_of_nonneg_right (by omega) (by omega)
    omega

theorem val_ge_head {c : Int} {l : List Int} (h : Digits (c :: l)) (hc : c ≠ 48) : 10 ^ l.length ≤ val (c :: l) := by
  rw [val_cons]
  have h1 := h.at (c := c) (by simp)
  have hl := val_nonneg l (fun x hx => h x (by simp [hx]))
  have hp := pow_pos10 l.length
  have : 1 * 10 ^ l.length ≤ (c - 48) * 10 ^ l.length := Int.mul_le_mul_of_nonneg_right (by omega) (by omega)
  omega

/-- Two runs of one length that part at one place: the smaller digit, the smaller number. -/
theorem val_parts {p s t : List Int} {x y : Int} (hs : Digits s) (ht : Digits t) (hl : s.length = t.length) (hxy : x < y) : val (p ++ x :: s) < val (p ++ y :: t) := by
  rw [val_app, val_app, val_cons, val_cons, List.length_cons, List.length_cons, hl]
  have h1 := val_lt s hs
  rw [hl] at h1
  have h2 := val_nonneg t ht
  have hp := pow_pos10 t.length
  have h3 : (x - 48) * 10 ^ t.length + 1 * 10 ^ t.length ≤ (y - 48) * 10 ^ t.length := by
    rw [← Int.add_mul]
    exact Int.mul_le_mul_of_nonneg_right (by omega) (by omega)
  omega

/-- 2^64 - 1, as text. -/
def mx : List Int := [49, 56, 52, 52, 54, 55, 52, 52, 48, 55, 51, 55, 48, 57, 53, 53, 49, 54, 49, 53]
theorem mx_digits : Digits mx := by
  intro c hc
  have : (mx.all isDig) = true := by decide
  rw [List.all_eq_true] at this
  exact this c hc
theorem mx_val : val mx = 18446744073709551615 := by decide
theorem mx_len : mx.length = 20 := rfl

theorem split_at {l : List Int} {k : Nat} (h : k < l.length) : l = l.take k ++ l.getD k 0 :: l.drop (k + 1) := by
  have e : l.getD k 0 = l[k] := by simp [List.getD, List.getElem?_eq_getElem h]
  rw [e]
  simp

/-- fitsUint64, on a run of digits that opens with no idle zero. -/
theorem fits_short {l : List Int} (h : Digits l) (hl : l.length < 20) : val l ≤ 18446744073709551615 := by
  have h1 := val_lt l h
  have h2 : (10 : Int) ^ l.length ≤ 10 ^ 19 := by
    have : (10 : Nat) ^ l.length ≤ 10 ^ 19 := Nat.pow_le_pow_right (by omega) (by omega)
    exact_mod_cast this
  have h3 : (10 : Int) ^ 19 = 10000000000000000000 := by decide
  omega

theorem fits_long {l : List Int} (h : Digits l) (hl : 20 < l.length) (hz : l.getD 0 0 ≠ 48) : ¬ val l ≤ 18446744073709551615 := by
  cases l with
  | nil => simp at hl
  | cons c r =>
    have h1 := val_ge_head h (by simpa using hz)
    have h2 : (10 : Int) ^ 20 ≤ 10 ^ r.length := by
      have : (10 : Nat) ^ 20 ≤ 10 ^ r.length := Nat.pow_le_pow_right (by omega) (by simp at hl; omega)
      exact_mod_cast this
    have h3 : (10 : Int) ^ 20 = 100000000000000000000 := by decide
    omega

theorem fits_part {l : List Int} (h : Digits l) (hl : l.length = 20) {k : Nat} (hk : k < 20) (he : l.take k = mx.take k) (hne : l.getD k 0 ≠ mx.getD k 0) :
    decide (l.getD k 0 < mx.getD k 0) = decide (val l ≤ 18446744073709551615) := by
  have e1 := split_at (l := l) (k := k) (by omega)
  have e2 := split_at (l := mx) (k := k) (by rw [mx_len]; omega)
  have d1 : Digits (l.drop (k + 1)) := fun c hc => h c (List.mem_of_mem_drop hc)
  have d2 : Digits (mx.drop (k + 1)) := fun c hc => mx_digits c (List.mem_of_mem_drop hc)
  have hlen : (l.drop (k + 1)).length = (mx.drop (k + 1)).length := by rw [List.length_drop, List.length_drop, hl, mx_len]
  rw [decide_eq_decide]
  rw [← mx_val]
  constructor
  · intro hlt
    have := val_parts (p := mx.take k) d1 d2 hlen hlt
    rw [← e2, ← he, ← e1] at this
    omega
  · intro hle
    rcases Int.lt_or_gt_of_ne hne with h3 | h3
    · exact h3
    · have := val_parts (p := mx.take k) d2 d1 hlen.symm h3
      rw [← e2, ← he, ← e1] at this
      omega

theorem fits_same {l : List Int} (hl : l.length = 20) (he : l.take 20 = mx.take 20) : val l ≤ 18446744073709551615 := by
  have e1 : l.take 20 = l := List.take_of_length_le (by omega)
  have e2 : mx.take 20 = mx := rfl
  rw [e1, e2] at he
  rw [he, mx_val]
  omega

/-- A run of digits without an idle zero. -/
structure Canon (l : List Int) : Prop where
  dig : Digits l
  ne : l ≠ []
  head : l.length = 1 ∨ l.getD 0 0 ≠ 48

theorem Canon.pos {l : List Int} (h : Digits l) (hz : l.getD 0 0 ≠ 48) (hne : l ≠ []) : 0 < val l := by
  cases l with
  | nil => exact absurd rfl hne
  | cons c r =>
    have h1 := val_ge_head h (by simpa using hz)
    have := pow_pos10 r.length
    omega

theorem snoc_of {l : List Int} (h : l ≠ []) : ∃ p c, l = p ++ [c] := ⟨l.dropLast, l.getLast h, (List.dropLast_concat_getLast h).symm⟩

/-- Two such runs that write one number are one. -/
theorem canon_one : ∀ (n : Nat) (l m : List Int), l.length ≤ n → Canon l → Canon m → val l = val m → l = m
  | 0, l, m, hn, hl, _, _ => by
    have : l = [] := List.length_eq_zero_iff.1 (by omega)
    exact absurd this hl.ne
  | n + 1, l, m, hn, hl, hm, hv => by
    obtain ⟨p, c, rfl⟩ := snoc_of hl.ne
    obtain ⟨q, e, rfl⟩ := snoc_of hm.ne
    rw [val_snoc, val_snoc] at hv
    have hc := hl.dig.at (c := c) (by simp)
    have he := hm.dig.at (c := e) (by simp)
    have h1 : c = e := by omega
    have h2 : val p = val q := by omega
    have dp : Digits p := fun x hx => hl.dig x (by simp [hx])
    have dq : Digits q := fun x hx => hm.dig x (by simp [hx])
    have hh : ∀ (r : List Int) (d : Int), Canon (r ++ [d]) → r ≠ [] → r.getD 0 0 ≠ 48 := by
      intro r d hr hrn
      rcases hr.head with h | h
      · have := List.length_pos_iff.2 hrn
        simp at h
        exact absurd h hrn
      · have h0 := List.length_pos_iff.2 hrn
        have e : (r ++ [d]).getD 0 0 = r.getD 0 0 := by simp only [List.getD, List.getElem?_append_left h0]
        rw [← e]
        exact h
    subst h1
    by_cases hp : p = []
    · by_cases hq : q = []
      · rw [hp, hq]
      · have := Canon.pos dq (hh q c hm hq) hq
        rw [hp] at h2
        simp [val] at h2
        unfold val at this
        omega
    · by_cases hq : q = []
      · have := Canon.pos dp (hh p c hl hp) hp
        rw [hq] at h2
        simp [val] at h2
        unfold val at this
        omega
      · have := canon_one n p q (by simp at hn; omega) ⟨dp, hp, .inr (hh p c hl hp)⟩ ⟨dq, hq, .inr (hh q c hm hq)⟩ h2
        rw [this]

theorem Utoa.canon {v : Int} {ds : List Int} (h : Utoa v ds) : Canon ds := ⟨h.dig, h.ne, h.head⟩
end Go.Proofs.Qxb6600744a
