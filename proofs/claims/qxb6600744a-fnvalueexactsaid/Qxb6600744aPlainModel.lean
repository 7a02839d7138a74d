/-
  The recogniser with its stack, as a plain machine, and its agreement with the recursive reader.
-/
import Derived.Test.Qxb6600744aPlainNest
namespace Go.Proofs.Qxb6600744a

/-- Behind an opening sign: closed at once, or pushed. -/
def opened (closer : Int) (st : Nat) (stk r : List Int) : Sum Bool (Nat × List Int × List Int) :=
  if starts [closer] r then .inr (2, stk, r.drop 1) else .inr (st, closer :: stk, r)

/-- One step: .inl says that it ends (true: accepted); the stack's top is its head. -/
def mstep (lim : Int) : Nat → List Int → List Int → Sum Bool (Nat × List Int × List Int)
  | 0, stk, rs => if (stk.length : Int) = lim then .inl false else match rs with
    | [] => .inl false
    | c :: r => if c = 123 then opened 125 1 stk r else if c = 91 then opened 93 0 stk r else match leaf c (c :: r) with
      | none => .inl false
      | some x => .inr (2, stk, x)
  | 1, stk, rs => match (strP rs).bind (needP [58]) with
    | none => .inl false
    | some x => .inr (0, stk, x)
  | _, stk, rs => match stk with
    | [] => .inl true
    | top :: tl => match rs with
      | [] => .inl false
      | c :: r => if c = top then .inr (2, tl, r) else if c = 44 then .inr (if top = 125 then 1 else 0, stk, r) else .inl false

def mrun (lim : Int) : Nat → Nat → List Int → List Int → Option (List Int)
  | 0, _, _, _ => none
  | n + 1, st, stk, rs => match mstep lim st stk rs with
    | .inl false => none
    | .inl true => some rs
    | .inr (st', stk', rs') => mrun lim n st' stk' rs'

theorem mrun_step {lim : Int} {st st' : Nat} {stk stk' rs rs' : List Int} (h : mstep lim st stk rs = .inr (st', stk', rs')) (n : Nat) : mrun lim (n + 1) st stk rs = mrun lim n st' stk' rs' := by
  rw [mrun, h]
theorem mrun_rej {lim : Int} {st : Nat} {stk rs : List Int} (h : mstep lim st stk rs = .inl false) (n : Nat) : mrun lim n st stk rs = none := by
  cases n with
  | zero => rfl
  | succ n => rw [mrun, h]
theorem mrun_next {lim : Int} {st st' : Nat} {stk stk' rs rs' : List Int} (h : mstep lim st stk rs = .inr (st', stk', rs')) (hn : ∀ n, mrun lim n st' stk' rs' = none) (n : Nat) : mrun lim n st stk rs = none := by
  cases n with
  | zero => rfl
  | succ n => rw [mrun_step h]; exact hn n

/-- From one state to another, in at most k steps. -/
def Goes (lim : Int) (k : Nat) (st : Nat) (stk rs : List Int) (st' : Nat) (stk' rs' : List Int) : Prop :=
  ∃ m, m ≤ k ∧ ∀ n, mrun lim (n + m) st stk rs = mrun lim n st' stk' rs'
def Rejects (lim : Int) (st : Nat) (stk rs : List Int) : Prop := ∀ n, mrun lim n st stk rs = none

theorem Goes.refl (lim : Int) (k st : Nat) (stk rs : List Int) : Goes lim k st stk rs st stk rs := ⟨0, Nat.zero_le _, fun _ => rfl⟩
theorem Goes.trans {lim : Int} {j k i s0 s1 s2 : Nat} {x0 x1 x2 y0 y1 y2 : List Int} (h : Goes lim j s0 x0 y0 s1 x1 y1) (g : Goes lim k s1 x1 y1 s2 x2 y2) (hi : j + k ≤ i) : Goes lim i s0 x0 y0 s2 x2 y2 := by
  obtain ⟨m, hm, h⟩ := h
  obtain ⟨p, hp, g⟩ := g
  refine ⟨p + m, by omega, fun n => ?_⟩
  rw [← Nat.add_assoc, h, g]
theorem Goes.step {lim : Int} {s0 s1 : Nat} {x0 x1 y0 y1 : List Int} (h : mstep lim s0 x0 y0 = .inr (s1, x1, y1)) {k : Nat} (hk : 1 ≤ k) : Goes lim k s0 x0 y0 s1 x1 y1 := ⟨1, hk, fun n => mrun_step h n⟩
theorem Goes.rejects {lim : Int} {k s0 s1 : Nat} {x0 x1 y0 y1 : List Int} (h : Goes lim k s0 x0 y0 s1 x1 y1) (g : Rejects lim s1 x1 y1) : Rejects lim s0 x0 y0 := by
  obtain ⟨m, _, h⟩ := h
  -- out of fuel is a refusal too: run with more, and fall back
  have mono : ∀ (n st : Nat) (stk rs : List Int), mrun lim (n + 1) st stk rs = none → mrun lim n st stk rs = none := by
    intro n
    induction n with
    | zero => intro st stk rs _; rfl
    | succ n ih =>
      intro st stk rs hn
      rw [mrun] at hn ⊢
      split at hn
      · rfl
      · cases hn
      · exact ih _ _ _ hn
  have mono2 : ∀ (j n st : Nat) (stk rs : List Int), mrun lim (n + j) st stk rs = none → mrun lim n st stk rs = none := by
    intro j
    induction j with
    | zero => intro n st stk rs hn; exact hn
    | succ j ih => intro n st stk rs hn; exact ih _ _ _ _ (mono _ _ _ _ hn)
  intro n
  exact mono2 m n _ _ _ (by rw [h n]; exact g n)

/-- The depth behind k open signs. -/
def dk (d : Int) : Nat → Int
  | 0 => d
  | k + 1 => wd (dk d k)

/-- What the machine does where the reader answers o, from the state (st, stk, bs) on. -/
def Sim (lim : Int) (o : Option (List Int)) (st : Nat) (stk bs : List Int) (out : List Int) (k : Nat) : Prop :=
  match o with
  | some r => Goes lim (k - r.length) st stk bs 2 out r
  | none => Rejects lim st stk bs

theorem leaf_of {c : Int} {r : List Int} (h1 : c ≠ 123) (h2 : c ≠ 91) (lim : Int) (stk : List Int) (hl : ¬ (stk.length : Int) = lim) : Sim lim (leaf c (c :: r)) 0 stk (c :: r) stk (r.length + 1) := by
  unfold Sim
  cases hv : leaf c (c :: r) with
  | none =>
    have : mstep lim 0 stk (c :: r) = .inl false := by simp [mstep, hl, h1, h2, hv]
    exact mrun_rej this
  | some x =>
    have hx := leaf_len hv
    simp at hx
    have : mstep lim 0 stk (c :: r) = .inr (2, stk, x) := by simp [mstep, hl, h1, h2, hv]
    exact Goes.step this (by omega)

/-- One step ahead of it. -/
theorem Sim.pre {lim : Int} {o : Option (List Int)} {s s1 : Nat} {x x1 b b1 out : List Int} {k : Nat} (hs : mstep lim s x b = .inr (s1, x1, b1)) (h : Sim lim o s1 x1 b1 out k) (hl : ∀ y, o = some y → y.length ≤ k) : Sim lim o s x b out (k + 1) := by
  unfold Sim at h ⊢
  cases o with
  | none => exact (Goes.step hs (Nat.le_refl 1)).rejects h
  | some r =>
    have := hl r rfl
    exact (Goes.step hs (Nat.le_refl 1)).trans h (by omega)

/-- One reading behind the other. -/
theorem Sim.bind {lim : Int} {o : Option (List Int)} {g : List Int → Option (List Int)} {s : Nat} {x b mid out : List Int} {k : Nat} (h : Sim lim o s x b mid k) (hl : ∀ y, o = some y → y.length ≤ k)
    (hg : ∀ y, o = some y → Sim lim (g y) 2 mid y out y.length) (hgl : ∀ y z, g y = some z → z.length ≤ y.length) : Sim lim (o.bind g) s x b out k := by
  cases o with
  | none => exact h
  | some y =>
    have h1 : Goes lim (k - y.length) s x b 2 mid y := h
    have h2 := hg y rfl
    have h3 := hl y rfl
    show Sim lim (g y) s x b out k
    unfold Sim at h2 ⊢
    cases hy : g y with
    | none => rw [hy] at h2; exact h1.rejects h2
    | some z =>
      rw [hy] at h2
      have := hgl y z hy
      exact h1.trans h2 (by omega)

theorem Sim.rej {lim : Int} {s : Nat} {x b out : List Int} {k : Nat} (h : mstep lim s x b = .inl false) : Sim lim none s x b out k := mrun_rej h

theorem rd_le_len {f t : Nat} {d : Int} {bs r : List Int} (h : rd f t d bs = some r) : r.length ≤ bs.length := Nat.le_of_lt (rd_len _ _ _ _ _ h)

/-- A key and its colon, then what follows. -/
theorem key_of (lim : Int) (stk bs : List Int) (g : List Int → Option (List Int)) (out : List Int) (hg : ∀ r, r.length < bs.length → Sim lim (g r) 0 stk r out r.length) (hl : ∀ r y, g r = some y → y.length ≤ r.length) :
    Sim lim ((strP bs).bind fun r => (needP [58] r).bind g) 1 stk bs out bs.length := by
  cases h1 : strP bs with
  | none =>
    have : mstep lim 1 stk bs = .inl false := by simp [mstep, h1]
    exact Sim.rej this
  | some x =>
    simp only [Option.bind_some]
    have hx := strP_len h1
    cases h2 : needP [58] x with
    | none =>
      have : mstep lim 1 stk bs = .inl false := by simp [mstep, h1, h2]
      exact Sim.rej this
    | some y =>
      simp only [Option.bind_some]
      have hy := needP_len h2 (by simp)
      have hm : mstep lim 1 stk bs = .inr (0, stk, y) := by simp [mstep, h1, h2]
      have h3 := hg y (by omega)
      have h4 := Sim.pre hm h3 (fun z hz => hl y z hz)
      unfold Sim at h4 ⊢
      cases hz : g y with
      | none => rw [hz] at h4; exact h4
      | some z =>
        rw [hz] at h4
        obtain ⟨m, hm1, hm2⟩ := h4
        exact ⟨m, by omega, hm2⟩

theorem sim (lim d0 : Int) (N : Nat) (H : ∀ k, k ≤ N → ((k : Int) = lim ↔ dk d0 k = 32)) : ∀ f : Nat,
    (∀ stk bs : List Int, stk.length + bs.length ≤ N → 2 * bs.length + 1 ≤ f → Sim lim (rd f 0 (dk d0 stk.length) bs) 0 stk bs stk bs.length) ∧
    (∀ stk bs : List Int, stk.length + 1 + bs.length ≤ N → 2 * bs.length + 2 ≤ f → mstep lim 0 stk (91 :: bs) = opened 93 0 stk bs → Sim lim (rd f 1 (dk d0 stk.length) bs) 0 stk (91 :: bs) stk (bs.length + 1)) ∧
    (∀ stk bs : List Int, stk.length + 1 + bs.length ≤ N → 2 * bs.length + 2 ≤ f → Sim lim (rd f 2 (dk d0 stk.length) bs) 2 (93 :: stk) bs stk bs.length) ∧
    (∀ stk bs : List Int, stk.length + 1 + bs.length ≤ N → 2 * bs.length + 2 ≤ f → mstep lim 0 stk (123 :: bs) = opened 125 1 stk bs → Sim lim (rd f 3 (dk d0 stk.length) bs) 0 stk (123 :: bs) stk (bs.length + 1)) ∧
    (∀ stk bs : List Int, stk.length + 1 + bs.length ≤ N → 2 * bs.length + 2 ≤ f → Sim lim (rd f 4 (dk d0 stk.length) bs) 2 (125 :: stk) bs stk bs.length) := by
  intro f
  induction f with
  | zero => exact ⟨fun _ _ _ h => by omega, fun _ _ _ h => by omega, fun _ _ _ h => by omega, fun _ _ _ h => by omega, fun _ _ _ h => by omega⟩
  | succ f ih =>
    obtain ⟨i0, i1, i2, i3, i4⟩ := ih
    refine ⟨?_, ?_, ?_, ?_, ?_⟩
    · -- a value
      intro stk bs hN hf
      have hL := H stk.length (by omega)
      rw [rd0]
      by_cases hd : dk d0 stk.length = 32
      · rw [if_pos hd]
        have : mstep lim 0 stk bs = .inl false := by simp [mstep, hL.2 hd]
        exact Sim.rej this
      · rw [if_neg hd]
        have hl : ¬ (stk.length : Int) = lim := fun h => hd (hL.1 h)
        cases bs with
        | nil =>
          have : mstep lim 0 stk [] = .inl false := by simp [mstep]
          exact Sim.rej this
        | cons c r =>
          simp only [List.length_cons] at hN hf
          by_cases h1 : c = 123
          · subst h1
            simp only [if_true]
            exact i3 stk r (by omega) (by omega) (by simp [mstep, hl])
          · by_cases h2 : c = 91
            · subst h2
              simp only [if_neg (show ¬ (91 : Int) = 123 by decide), if_true]
              exact i1 stk r (by omega) (by omega) (by simp [mstep, hl])
            · simp only [if_neg h1, if_neg h2]
              exact leaf_of h1 h2 lim stk hl
    · -- an array, behind its bracket
      intro stk bs hN hf hm
      rw [rd1]
      unfold opened at hm
      cases hs : starts [93] bs with
      | true =>
        rw [hs] at hm
        simp only [if_true] at hm ⊢
        have := starts_len hs
        simp only [List.length_cons, List.length_nil] at this
        show Goes lim _ _ _ _ _ _ _
        exact Goes.step hm (by rw [List.length_drop]; omega)
      | false =>
        rw [hs] at hm
        simp only [Bool.false_eq_true, if_false] at hm ⊢
        have hi := i0 (93 :: stk) bs (by simp; omega) (by omega)
        refine Sim.pre hm (Sim.bind hi (fun y hy => rd_le_len hy) (fun y hy => ?_) (fun y z hz => rd_le_len hz)) (fun y hy => ?_)
        · have := rd_len _ _ _ _ _ hy
          exact i2 stk y (by omega) (by omega)
        · obtain ⟨x, hx1, hx2⟩ := bind_some hy
          have := rd_le_len hx1
          have := rd_le_len hx2
          omega
    · -- an array, behind an item
      intro stk bs hN hf
      rw [rd2]
      cases bs with
      | nil =>
        have e1 : starts [93] [] = false := rfl
        have e2 : needP [44] [] = none := rfl
        rw [e1, e2]
        simp only [Bool.false_eq_true, if_false, Option.bind_none]
        have : mstep lim 2 (93 :: stk) [] = .inl false := by simp [mstep]
        exact Sim.rej this
      | cons c r =>
        simp only [List.length_cons] at hN hf
        rw [starts_cons]
        by_cases h1 : c = 93
        · subst h1
          rw [decide_eq_true rfl]
          simp only [if_true, List.drop_one, List.tail_cons]
          have : mstep lim 2 (93 :: stk) (93 :: r) = .inr (2, stk, r) := by simp [mstep]
          show Goes lim _ _ _ _ _ _ _
          exact Goes.step this (by simp)
        · rw [decide_eq_false h1]
          simp only [Bool.false_eq_true, if_false]
          by_cases h2 : c = 44
          · subst h2
            have e2 : needP [44] (44 :: r) = some r := by simp [needP, starts]
            rw [e2]
            simp only [Option.bind_some]
            have hm : mstep lim 2 (93 :: stk) (44 :: r) = .inr (0, 93 :: stk, r) := by simp [mstep]
            have hi := i0 (93 :: stk) r (by simp; omega) (by omega)
            refine Sim.pre hm (Sim.bind hi (fun y hy => rd_le_len hy) (fun y hy => ?_) (fun y z hz => rd_le_len hz)) (fun y hy => ?_)
            · have := rd_len _ _ _ _ _ hy
              exact i2 stk y (by omega) (by omega)
            · obtain ⟨x, hx1, hx2⟩ := bind_some hy
              have := rd_le_len hx1
              have := rd_le_len hx2
              omega
          · have e2 : needP [44] (c :: r) = none := by simp [needP, starts, h2]
            rw [e2]
            simp only [Option.bind_none]
            have : mstep lim 2 (93 :: stk) (c :: r) = .inl false := by simp [mstep, h1, h2]
            exact Sim.rej this
    · -- an object, behind its brace
      intro stk bs hN hf hm
      rw [rd3]
      unfold opened at hm
      cases hs : starts [125] bs with
      | true =>
        rw [hs] at hm
        simp only [if_true] at hm ⊢
        have := starts_len hs
        simp only [List.length_cons, List.length_nil] at this
        show Goes lim _ _ _ _ _ _ _
        exact Goes.step hm (by rw [List.length_drop]; omega)
      | false =>
        rw [hs] at hm
        simp only [Bool.false_eq_true, if_false] at hm ⊢
        refine Sim.pre hm (key_of lim (125 :: stk) bs (fun r => (rd f 0 (wd (dk d0 stk.length)) r).bind (rd f 4 (dk d0 stk.length))) stk ?_ ?_) ?_
        · intro r hr
          have hi := i0 (125 :: stk) r (by simp; omega) (by omega)
          refine Sim.bind hi (fun y hy => rd_le_len hy) (fun y hy => ?_) (fun y z hz => rd_le_len hz)
          have := rd_len _ _ _ _ _ hy
          exact i4 stk y (by omega) (by omega)
        · intro r y hy
          obtain ⟨x, hx1, hx2⟩ := bind_some hy
          have := rd_le_len hx1
          have := rd_le_len hx2
          omega
        · intro y hy
          obtain ⟨u, hu1, hy⟩ := bind_some hy
          obtain ⟨v, hv1, hy⟩ := bind_some hy
          obtain ⟨x, hx1, hx2⟩ := bind_some hy
          have := strP_len hu1
          have := needP_len hv1 (by simp)
          have := rd_le_len hx1
          have := rd_le_len hx2
          omega
    · -- an object, behind an item
      intro stk bs hN hf
      rw [rd4]
      cases bs with
      | nil =>
        have e1 : starts [125] [] = false := rfl
        have e2 : needP [44] [] = none := rfl
        rw [e1, e2]
        simp only [Bool.false_eq_true, if_false, Option.bind_none]
        have : mstep lim 2 (125 :: stk) [] = .inl false := by simp [mstep]
        exact Sim.rej this
      | cons c r =>
        simp only [List.length_cons] at hN hf
        rw [starts_cons]
        by_cases h1 : c = 125
        · subst h1
          rw [decide_eq_true rfl]
          simp only [if_true, List.drop_one, List.tail_cons]
          have : mstep lim 2 (125 :: stk) (125 :: r) = .inr (2, stk, r) := by simp [mstep]
          show Goes lim _ _ _ _ _ _ _
          exact Goes.step this (by simp)
        · rw [decide_eq_false h1]
          simp only [Bool.false_eq_true, if_false]
          by_cases h2 : c = 44
          · subst h2
            have e2 : needP [44] (44 :: r) = some r := by simp [needP, starts]
            rw [e2]
            simp only [Option.bind_some]
            have hm : mstep lim 2 (125 :: stk) (44 :: r) = .inr (1, 125 :: stk, r) := by simp [mstep]
            refine Sim.pre hm (key_of lim (125 :: stk) r (fun r => (rd f 0 (wd (dk d0 stk.length)) r).bind (rd f 4 (dk d0 stk.length))) stk ?_ ?_) ?_
            · intro x hx
              have hi := i0 (125 :: stk) x (by simp; omega) (by omega)
              refine Sim.bind hi (fun y hy => rd_le_len hy) (fun y hy => ?_) (fun y z hz => rd_le_len hz)
              have := rd_len _ _ _ _ _ hy
              exact i4 stk y (by omega) (by omega)
            · intro x y hy
              obtain ⟨z, hx1, hx2⟩ := bind_some hy
              have := rd_le_len hx1
              have := rd_le_len hx2
              omega
            · intro y hy
              obtain ⟨u, hu1, hy⟩ := bind_some hy
              obtain ⟨v, hv1, hy⟩ := bind_some hy
              obtain ⟨x, hx1, hx2⟩ := bind_some hy
              have := strP_len hu1
              have := needP_len hv1 (by simp)
              have := rd_le_len hx1
              have := rd_le_len hx2
              omega
          · have e2 : needP [44] (c :: r) = none := by simp [needP, starts, h2]
            rw [e2]
            simp only [Option.bind_none]
            have : mstep lim 2 (125 :: stk) (c :: r) = .inl false := by simp [mstep, h1, h2]
            exact Sim.rej this

/-- The limit that modelValue lays. -/
def limOf (d : Int) : Int := if d ≤ 32 ∧ -2097120 ≤ d then 32 - d else -1

theorem dk_form (d : Int) (h0 : -9223372036854775808 ≤ d) (h1 : d ≤ 9223372036854775807) : ∀ k : Nat, k ≤ 1048576 → dk d k = if d + k ≤ 9223372036854775807 then d + k else d + k - 18446744073709551616
  | 0, _ => by rw [if_pos (by omega)]; simp [dk]
  | k + 1, hk => by
    have ih := dk_form d h0 h1 k (by omega)
    show wd (dk d k) = _
    rw [ih]
    unfold wd
    by_cases h : d + k ≤ 9223372036854775807
    · rw [if_pos h]
      by_cases h2 : d + k = 9223372036854775807
      · rw [if_pos h2, if_neg (by omega)]; omega
      · rw [if_neg h2, if_pos (by omega)]; omega
    · rw [if_neg h, if_neg (by omega), if_neg (by omega)]; omega

theorem dk_lim (d : Int) (h0 : -9223372036854775808 ≤ d) (h1 : d ≤ 9223372036854775807) (k : Nat) (hk : k ≤ 1048576) : ((k : Int) = limOf d ↔ dk d k = 32) := by
  rw [dk_form d h0 h1 k hk]
  unfold limOf
  split <;> split <;> omega

theorem model_eq {d : Int} (h0 : -9223372036854775808 ≤ d) (h1 : d ≤ 9223372036854775807) {bs : List Int} (hl : bs.length ≤ 1048576) {F : Nat} (hF : 2 * bs.length + 1 ≤ F) : mrun (limOf d) (bs.length + 2) 0 [] bs = rd F 0 d bs := by
  have h := (sim (limOf d) d 1048576 (dk_lim d h0 h1) F).1 [] bs (by simpa using hl) hF
  have e : dk d ([] : List Int).length = d := rfl
  rw [e] at h
  unfold Sim at h
  cases hr : rd F 0 d bs with
  | none => rw [hr] at h; exact h _
  | some r =>
    rw [hr] at h
    obtain ⟨m, hm, h⟩ := h
    have hrl := rd_le_len hr
    obtain ⟨n, hn⟩ : ∃ n, bs.length + 2 = (n + 1) + m := ⟨bs.length + 1 - m, by omega⟩
    rw [hn, h (n + 1)]
    rfl
end Go.Proofs.Qxb6600744a
