/-
  The append within the room once more, the lengths as they stand in the slots; small facts on strings that are walked byte by byte.
-/
import Derived.Test.Qxb6600744aBuf
import Derived.Test.Qxb6600744aPlainStr
import Derived.Test.Qxb6600744aUintReads
import Derived.Lib.Strings
namespace Go.Proofs.Qxb6600744a
open Go.RowKit

theorem wpList_append_bufn (w : World) {ops : Array Oper} {rest : List Oper} {o : Oper} {a : Act} {Q : Exit → Act → World → Prop}
    (hg : o.guard = none) (s x : Operand) (tx : TypeId) (hop : o.op = Op.call { callee := Callee.builtin Builtin.append, args := #[s, x], argTypes := #[22, tx] })
    (g k n cap : Nat) (xs ys : List Int) (hs : a.eval s = .slice (some ⟨g, 0, none⟩) k cap) (hk : k = xs.length) (hn : n = ys.length) (X : Value) (hx : a.eval x = X) (hbuf : Buf w g cap xs)
    (hsrc : Src Try.prog 1 tx X ys.length (ys.map (Value.int .u8)) w) (hroom : k + n ≤ cap)
    (hK : ∀ w', Buf w' g cap (xs ++ ys) → Below g w w' → wpList Try.prog ops Q rest (a.put o.dst (.slice (some ⟨g, 0, none⟩) (k + n) cap)) w') :
    wpList Try.prog ops Q (o :: rest) a w := by
  subst hn
  exact wpList_append_buf w hg s x tx hop g k cap xs ys hs hk X hx hbuf hsrc hroom hK

theorem byt_at (s : ByteArray) (k : Nat) (h : k < s.size) : (byt s).getD k 0 = (s[k].toNat : Int) := by
  have h' : k < s.data.toList.length := by simpa using h
  simp only [byt, List.getD, List.getElem?_map, List.getElem?_eq_getElem h', Option.map_some, Option.getD_some]
  rfl

theorem byt_extract (s : ByteArray) (i j : Nat) : byt (s.extract i j) = ((byt s).drop i).take (j - i) := by
  unfold byt
  rw [Lib.extract_data, List.map_take, List.map_drop]

theorem below_alloc_of {g : Nat} {w w' : World} {o : Obj} (h : Below g (w.alloc o) w') (hg : g ≤ w.heap.size) : Below g w w' :=
  ((Below.refl g w).alloc hg o).trans h

theorem row_len {w : World} {a : Option Addr} {len cap : Nat} {zs : List Int}
    (h : (a = none ∧ len = 0 ∧ cap = 0 ∧ zs = []) ∨ ∃ x, a = some x ∧ len ≤ cap ∧ cap ≤ maxLen ∧ zs.length = cap ∧ (∀ i, i < zs.length → w.cell? (x.add i) = some (.int .u8 (zs.getD i 0))) ∧ ∀ n ∈ zs, (Lit.int .u8 n).wf = true) :
    len ≤ maxLen := by
  rcases h with ⟨_, rfl, _⟩ | ⟨_, _, h1, h2, _⟩
  · exact Nat.zero_le _
  · omega
end Go.Proofs.Qxb6600744a
