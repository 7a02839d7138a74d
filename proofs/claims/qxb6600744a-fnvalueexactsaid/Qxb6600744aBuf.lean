/-
  A buffer made by 'make([]byte, 0, n)' and filled by append within its room.
-/
import Derived.Test.Qxb6600744aZzuint
import Derived.Deep.AppendSrc
namespace Go.Proofs.Qxb6600744a
open Go.RowKit

/-- Block g is a row of cap bytes: first xs, then zeros. -/
def Buf (w : World) (g cap : Nat) (xs : List Int) : Prop := w.rowIs g 5 cap (fun j => .int .u8 (xs.getD j 0))

theorem Buf.holds {w : World} {g cap : Nat} {xs : List Int} (h : Buf w g cap xs) (hc : xs.length ≤ cap) : Holds w.heap.size w (some ⟨g, 0, none⟩) xs :=
  .inr ⟨g, 0, rfl, h.lt, fun k hk => by rw [Nat.zero_add]; exact World.rowIs.cell h (by omega)⟩

theorem getD_snoc (xs : List Int) (y : Int) (j : Nat) : (xs ++ [y]).getD j 0 = if j = xs.length then y else xs.getD j 0 := by
  by_cases h : j = xs.length
  · subst h; simp
  · rw [if_neg h]
    by_cases h2 : j < xs.length
    · simp [List.getD, List.getElem?_append_left h2]
    · simp only [List.getD]
      rw [List.getElem?_eq_none (by simp; omega), List.getElem?_eq_none (by omega)]

theorem Buf.setCells {g cap : Nat} : ∀ (ys xs : List Int) (w : World), Buf w g cap xs → Buf (w.setCells g xs.length (ys.map (Value.int .u8))) g cap (xs ++ ys)
  | [], xs, w, h => by simpa [World.setCells] using h
  | y :: ys, xs, w, h => by
    have h1 : Buf (w.setCell ⟨g, xs.length, none⟩ (.int .u8 y)) g cap (xs ++ [y]) := by
      refine (World.rowIs.set h xs.length (.int .u8 y)).congr (fun j _ => ?_)
      rw [getD_snoc]
      split <;> rfl
    have h2 := Buf.setCells ys (xs ++ [y]) _ h1
    rw [List.length_append, List.append_assoc] at h2
    exact h2

theorem below_setCells (g : Nat) : ∀ (vs : List Value) (o : Nat) (w : World), Below g w (w.setCells g o vs)
  | [], _, _ => Below.refl _ _
  | v :: r, o, w => (below_set w g o v).trans (below_setCells g r (o + 1) _)

theorem size5 : ∃ i, Try.prog.info? 5 = some i ∧ i.zero = some (.int .u8 0) ∧ i.size = 1 ∧ i.bytes = 1 := info_parts info5

theorem run_append_buf {w : World} {g cap : Nat} {xs ys : List Int} {tx ty : TypeId} {X : Value} (h : Buf w g cap xs) (hs : Src Try.prog 1 tx X ys.length (ys.map (Value.int .u8)) w) (hroom : xs.length + ys.length ≤ cap) :
    (Builtin.append_ #[22, tx] ty #[.slice (some ⟨g, 0, none⟩) xs.length cap, X]).run Try.prog w = .ok (.slice (some ⟨g, 0, none⟩) (xs.length + ys.length) cap) (w.setCells g xs.length (ys.map (Value.int .u8))) := by
  obtain ⟨i, hi, _, hz, _⟩ := size5
  have := run_append_room_src (P := Try.prog) w 22 tx ty 5 i Try.underlying22 hi g 0 xs.length cap X ys.length (ys.map (Value.int .u8)) (by rw [hz]; exact hs) hroom
    (fun j hj => by
      rw [hz, Nat.zero_add, Nat.mul_one]
      rw [World.rowIs.cell h (by simp at hj; omega)]
      rfl)
    (fun j _ => World.rowIs.frozen h _)
  rw [hz, Nat.zero_add, Nat.mul_one] at this
  exact this

theorem wpList_append_buf (w : World) {ops : Array Oper} {rest : List Oper} {o : Oper} {a : Act} {Q : Exit → Act → World → Prop}
    (hg : o.guard = none) (s x : Operand) (tx : TypeId) (hop : o.op = Op.call { callee := Callee.builtin Builtin.append, args := #[s, x], argTypes := #[22, tx] })
    (g k cap : Nat) (xs ys : List Int) (hs : a.eval s = .slice (some ⟨g, 0, none⟩) k cap) (hk : k = xs.length) (X : Value) (hx : a.eval x = X) (hbuf : Buf w g cap xs)
    (hsrc : Src Try.prog 1 tx X ys.length (ys.map (Value.int .u8)) w) (hroom : k + ys.length ≤ cap)
    (hK : ∀ w', Buf w' g cap (xs ++ ys) → Below g w w' → wpList Try.prog ops Q rest (a.put o.dst (.slice (some ⟨g, 0, none⟩) (k + ys.length) cap)) w') :
    wpList Try.prog ops Q (o :: rest) a w := by
  subst hk
  refine wpList_plain hg fun K hK' => ?_
  have hrun := run_append_buf (ty := o.type) hbuf hsrc hroom
  unfold Oper.wp
  simp [execOp, hop, resolve, invoke, builtin, hs, hx, hrun, Result.andThen]
  exact hK' _ _ (hK _ (Buf.setCells ys xs w hbuf) (below_setCells _ _ _ _))

/-- 'make([]byte, 0, n)'. -/
theorem wpList_make_buf (w : World) {ops : Array Oper} {rest : List Oper} {o : Oper} {a : Act} {Q : Exit → Act → World → Prop}
    (hg : o.guard = none) (l c : Operand) (hop : o.op = Op.makeSlice 22 l c) (C : Int) (n : Nat) (hl : a.eval l = .int .i64 0) (hc : a.eval c = .int .i64 C) (hC : C = (n : Int)) (hn : n ≤ 4194304)
    (hK : ∀ w', Buf w' w.heap.size n [] → Below w.heap.size w w' → w.heap.size < w'.heap.size → wpList Try.prog ops Q rest (a.put o.dst (.slice (some ⟨w.heap.size, 0, none⟩) 0 n)) w') :
    wpList Try.prog ops Q (o :: rest) a w := by
  subst hC
  refine wpList_plain hg fun K hK' => ?_
  obtain ⟨i, hi, hz0, hz, hz2⟩ := size5
  have hrun := run_make (P := Try.prog) w 22 5 i (.int .u8 0) Try.underlying22 hi hz0 .i64 .i64 0 n (by omega) (by omega) (by rw [hz2]; omega) (by omega)
  simp only [Int.toNat_natCast, hz, Nat.mul_one] at hrun
  unfold Oper.wp
  simp [execOp, hop, hl, hc, hrun, Result.andThen]
  refine hK' _ _ (hK _ ?_ ((Below.refl _ _).alloc (Nat.le_refl _) _) (by simp))
  exact (World.rowIs_made w (.int .u8 0) n 5).congr (fun j _ => by simp)

theorem src_holds {B : Nat} {w : World} {a : Option Addr} {bs : List Int} (h : Holds B w a bs) (cap : Nat) : Src Try.prog 1 22 (.slice a bs.length cap) bs.length (bs.map (Value.int .u8)) w := by
  have h0 : ∀ x, bs = [] → Src Try.prog 1 22 (.slice (some x) bs.length cap) bs.length (bs.map (Value.int .u8)) w := by
    rintro x rfl
    exact Src.ofSlice w Try.underlying22 x 0 cap [] rfl (fun j u hu => by simp at hu) (fun u hu => by simp at hu)
  rcases h with rfl | ⟨b, off, rfl, _, hk⟩
  · cases a with
    | none => exact Src.ofNil w Try.underlying22 cap
    | some x => exact h0 x rfl
  · refine Src.ofSlice w Try.underlying22 ⟨b, off, none⟩ bs.length cap _ (by simp) (fun j u hu => ?_) (ints_oneCell _ _)
    have hj : j < bs.length := by
      have := (List.getElem?_eq_some_iff.1 hu).1
      simpa using this
    rw [Go.WideShapes.add_plain, hk j hj]
    rw [← hu]
    simp [List.getD, hj]

theorem src_string (w : World) (s : ByteArray) : Src Try.prog 1 9 (.string s) (byt s).length ((byt s).map (Value.int .u8)) w := by
  have := Src.ofString (P := Try.prog) w Try.underlying9 s
  have e : (byt s).map (Value.int .u8) = byteCells s := by simp [byt, byteCells]
  rw [e, byt_length]
  exact this

/-- What a literal's list of bytes is boxed as. -/
theorem src_new (w : World) (cs : List Int) : Src Try.prog 1 22 (.slice (some ⟨w.heap.size, 0, none⟩) cs.length cs.length) cs.length (cs.map (Value.int .u8)) (w.alloc (.cells (cs.map (Value.int .u8)).toArray 5)) := by
  refine src_holds (B := w.heap.size + 1) (.inr ⟨w.heap.size, 0, rfl, by omega, fun k hk => ?_⟩) cs.length
  simp [List.getD, hk]

theorem Buf.below {w w' : World} {g cap : Nat} {xs : List Int} (h : Buf w g cap xs) {B : Nat} (hb : Below B w w') (hg : g < B) : Buf w' g cap xs := World.rowIs.of_block h (hb.block g hg)
theorem Buf.alloc {w : World} {g cap : Nat} {xs : List Int} (h : Buf w g cap xs) (o : Obj) : Buf (w.alloc o) g cap xs := World.rowIs.alloc h o
end Go.Proofs.Qxb6600744a
