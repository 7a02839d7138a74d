/-
  Plain functions on lists of bytes (as integers): no Go in sight.
-/
namespace Go.Proofs.Qxb6600744a

def isDig (c : Int) : Bool := decide (48 ≤ c ∧ c ≤ 57)
/-- Printable, and not one of the escaped five. -/
def safe (c : Int) : Bool := decide (32 ≤ c ∧ c ≤ 126 ∧ c ≠ 34 ∧ c ≠ 92 ∧ c ≠ 60 ∧ c ≠ 62 ∧ c ≠ 38)

/-- The leading digits. -/
def dg (bs : List Int) : List Int := bs.takeWhile isDig
/-- The number that digits write. -/
def val (l : List Int) : Int := l.foldl (fun v c => 10 * v + (c - 48)) 0

theorem val_snoc (l : List Int) (c : Int) : val (l ++ [c]) = 10 * val l + (c - 48) := by simp [val]

theorem foldl_ge (l : List Int) (h : ∀ c ∈ l, isDig c = true) : ∀ v : Int, 0 ≤ v → v ≤ l.foldl (fun v c => 10 * v + (c - 48)) v := by
  induction l with
  | nil => intro v _; simp
  | cons c l ih =>
    intro v hv
    have hc : isDig c = true := h c (by simp)
    unfold isDig at hc
    have hc' := of_decide_eq_true hc
    rw [List.foldl_cons]
    have := ih (fun x hx => h x (by simp [hx])) (10 * v + (c - 48)) (by omega)
    omega

theorem val_nonneg (l : List Int) (h : ∀ c ∈ l, isDig c = true) : 0 ≤ val l := foldl_ge l h 0 (by omega)

theorem val_app_ge (l m : List Int) (hl : ∀ c ∈ l, isDig c = true) (hm : ∀ c ∈ m, isDig c = true) : val l ≤ val (l ++ m) := by
  unfold val
  rw [List.foldl_append]
  exact foldl_ge m hm _ (val_nonneg l hl)

theorem dg_dig (bs : List Int) : ∀ c ∈ dg bs, isDig c = true := fun c hc => by
  have := List.all_takeWhile (p := isDig) (l := bs)
  rw [List.all_eq_true] at this
  exact this c hc

theorem dg_le (bs : List Int) : (dg bs).length ≤ bs.length := (List.takeWhile_prefix (p := isDig) (l := bs)).length_le

theorem dg_take (bs : List Int) : dg bs = bs.take (dg bs).length := by
  have := List.takeWhile_prefix (p := isDig) (l := bs)
  exact List.prefix_iff_eq_take.1 this

/-- The first k are digits, and so is the next. -/
theorem dg_step {bs : List Int} {k : Nat} (h : k ≤ (dg bs).length) (hk : k < bs.length) : isDig (bs.getD k 0) = decide (k < (dg bs).length) := by
  induction bs generalizing k with
  | nil => simp at hk
  | cons c l ih =>
    by_cases hc : isDig c = true
    · have e : dg (c :: l) = c :: dg l := by simp [dg, hc]
      rw [e] at h ⊢
      cases k with
      | zero => simp [hc]
      | succ k =>
        simp only [List.length_cons] at h hk ⊢
        have := ih (k := k) (by omega) (by omega)
        simp only [List.getD_cons_succ, this]
        rw [decide_eq_decide]; omega
    · have e : dg (c :: l) = [] := by simp [dg, hc]
      rw [e] at h ⊢
      have : k = 0 := by simpa using h
      subst this
      simp at hc
      simp [hc]

theorem dg_end {bs : List Int} {k : Nat} (h : k ≤ (dg bs).length) (hk : bs.length ≤ k) : k = (dg bs).length := by
  have := dg_le bs
  omega

theorem take_snoc {bs : List Int} {k : Nat} (hk : k < bs.length) : bs.take (k + 1) = bs.take k ++ [bs.getD k 0] := by
  rw [List.take_succ_eq_append_getElem hk]
  simp [List.getD, List.getElem?_eq_getElem hk]

theorem take_dig {bs : List Int} {k : Nat} (h : k ≤ (dg bs).length) : ∀ c ∈ bs.take k, isDig c = true := by
  intro c hc
  apply dg_dig bs
  rw [dg_take bs]
  have : bs.take k = (bs.take (dg bs).length).take k := by rw [List.take_take, Nat.min_eq_left h]
  rw [this] at hc
  exact List.mem_of_mem_take hc

/-- As far as the digits go, the number grows. -/
theorem val_take_le {bs : List Int} {k : Nat} (h : k ≤ (dg bs).length) : val (bs.take k) ≤ val (dg bs) := by
  have e : dg bs = bs.take k ++ (dg bs).drop k := by
    conv => lhs; rw [← List.take_append_drop k (dg bs)]
    congr 1
    rw [dg_take bs, List.take_take]
    rw [Nat.min_eq_left h]
  rw [e]
  exact val_app_ge _ _ (take_dig h) (fun c hc => dg_dig bs c (List.mem_of_mem_drop hc))

def uintOk (ok : Bool) (bs : List Int) : Bool :=
  ok && decide (val (dg bs) ≤ 18446744073709551615 ∧ (dg bs).length ≠ 0 ∧ ¬ (1 < (dg bs).length ∧ bs.getD 0 0 = 48))
def uintV (ok : Bool) (bs : List Int) : Int := if uintOk ok bs then val (dg bs) else 0
def uintR (ok : Bool) (bs : List Int) : List Int := if uintOk ok bs then bs.drop (dg bs).length else bs


/-! ### utoa -/
theorem foldl_val (l : List Int) : ∀ v : Int, l.foldl (fun v c => 10 * v + (c - 48)) v = v * 10 ^ l.length + val l := by
  induction l with
  | nil => intro v; simp [val]
  | cons c l ih =>
    intro v
    unfold val
    rw [List.foldl_cons, List.foldl_cons, ih, ih (10 * 0 + (c - 48))]
    rw [List.length_cons, Int.pow_succ]
    have e : (10 * v + (c - 48)) * 10 ^ l.length = v * (10 ^ l.length * 10) + (c - 48) * 10 ^ l.length := by
      rw [Int.add_mul, Int.mul_comm 10 v, Int.mul_assoc, Int.mul_comm 10 (10 ^ l.length)]
    rw [e]
    simp only [Int.mul_zero, Int.zero_add]
    omega

theorem val_cons (c : Int) (l : List Int) : val (c :: l) = (c - 48) * 10 ^ l.length + val l := by
  have := foldl_val l (10 * 0 + (c - 48))
  unfold val at this ⊢
  rw [List.foldl_cons, this]
  simp

def UPre (v x : Int) (ds : List Int) : Prop := (∀ c ∈ ds, isDig c = true) ∧ x * 10 ^ ds.length + val ds = v ∧ 0 ≤ x

theorem UPre.start (v : Int) (h : 0 ≤ v) : UPre v v [] := ⟨by simp, by simp [val], h⟩

theorem UPre.step {v x : Int} {ds : List Int} (h : UPre v x ds) : UPre v (x / 10) ((48 + x % 10) :: ds) := by
  obtain ⟨h1, h2, h3⟩ := h
  refine ⟨?_, ?_, by omega⟩
  · intro c hc
    rcases List.mem_cons.1 hc with rfl | hc
    · unfold isDig; exact decide_eq_true (by omega)
    · exact h1 c hc
  · rw [val_cons, List.length_cons, Int.pow_succ]
    have e : x * 10 ^ ds.length = (x / 10) * (10 ^ ds.length * 10) + (x % 10) * 10 ^ ds.length := by
      conv => lhs; rw [← Int.mul_ediv_add_emod x 10]
      rw [Int.add_mul, Int.mul_comm 10 (x / 10), Int.mul_assoc, Int.mul_comm 10 (10 ^ ds.length)]
    have e2 : 48 + x % 10 - 48 = x % 10 := by omega
    rw [e2]
    omega

theorem UPre.room {v x : Int} {ds : List Int} (h : UPre v x ds) (hx : 0 < x) (hv : v ≤ 18446744073709551615) : ds.length < 20 := by
  obtain ⟨h1, h2, h3⟩ := h
  have hn := val_nonneg ds h1
  rcases Nat.lt_or_ge ds.length 20 with hl | hl
  · exact hl
  · exfalso
    have hp : (10 : Int) ^ 20 ≤ 10 ^ ds.length := by
      have : (10 : Nat) ^ 20 ≤ 10 ^ ds.length := Nat.pow_le_pow_right (by omega) hl
      exact_mod_cast this
    have hq : (10 : Int) ^ ds.length ≤ x * 10 ^ ds.length := by
      have hpos : (0 : Int) ≤ 10 ^ ds.length := by
        have := Int.pow_nonneg (n := 10) (m := ds.length) (by omega)
        exact this
      have := Int.mul_le_mul_of_nonneg_right (show (1 : Int) ≤ x by omega) hpos
      rwa [Int.one_mul] at this
    have h20 : (10 : Int) ^ 20 = 100000000000000000000 := by decide
    omega

/-- What utoa writes. -/
structure Utoa (v : Int) (ds : List Int) : Prop where
  dig : ∀ c ∈ ds, isDig c = true
  val : val ds = v
  ne : ds ≠ []
  head : ds.length = 1 ∨ ds.getD 0 0 ≠ 48
  len : ds.length ≤ 20

theorem UPre.done {v x : Int} {ds : List Int} (h : UPre v x ds) (hx : x < 10) (hp : ds = [] ∨ 0 < x) (hl : ds.length < 20) : Utoa v ((48 + x % 10) :: ds) := by
  have hs := h.step
  have h0 := h.2.2
  have e : x / 10 = 0 := by omega
  rw [e] at hs
  refine ⟨hs.1, by have := hs.2.1; simpa using this, by simp, ?_, by simp; omega⟩
  rcases hp with rfl | hp
  · left; rfl
  · right; simp; omega

end Go.Proofs.Qxb6600744a
