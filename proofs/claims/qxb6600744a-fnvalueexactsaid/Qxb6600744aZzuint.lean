/-
  The walk of ZZUint (13).
-/
import Derived.Test.Qxb6600744aUint
import Derived.Deep.QuietTactic
import Derived.BigQuiet
namespace Go.Proofs.Qxb6600744a
open Go.RowKit

theorem below_drawn {B : Nat} {a w : World} (h : Below B a w) (n : Nat) : Below B a (w.drewN n) := h.trans ⟨rfl, rfl, rfl, Nat.le_refl _, fun _ _ => rfl⟩

/-- The cursor as the three exports make it. -/
theorem cur_new {w : World} {a : Option Addr} {cap : Nat} {bs : List Int} (ok : Bool) (hh : Holds w.heap.size w a bs) (hc : bs.length ≤ cap) (hm : cap ≤ 4194304) (hb : Bts bs) :
    Cur (w.alloc (.cells #[.slice a bs.length cap, .bool ok] 46)) w.heap.size bs ok := by
  have hbel : Below w.heap.size w (w.alloc (.cells #[.slice a bs.length cap, .bool ok] 46)) := (Below.refl _ _).alloc (Nat.le_refl _) _
  refine ⟨⟨a, cap, ?_, hh.below hbel, hc, hm⟩, ?_, ?_, ?_, hb⟩
  all_goals simp

theorem zzuint_any {w : World} {a : Option Addr} {cap : Nat} {bs : List Int} (ok : Bool) (hh : Holds w.heap.size w a bs) (hc : bs.length ≤ cap) (hm : cap ≤ 4194304) (hb : Bts bs) :
    Calls Try.prog 13 #[.slice a bs.length cap, .bool ok] w fun e w' => e = .returned (.tuple #[.int .u64 (uintV ok bs), .int .i64 ((uintR ok bs).length : Nat), .bool (uintOk ok bs)]) ∧ Below w.heap.size w w' := by
  have hcur := cur_new ok hh hc hm hb
  have hbel0 : Below w.heap.size w (w.alloc (.cells #[.slice a bs.length cap, .bool ok] 46)) := (Below.refl _ _).alloc (Nat.le_refl _) _
  go_enter Try.func13, Try.ntmps13
  go_wp2_with fail
  refine (uint_any hcur).mono ?_
  rintro e w1 ⟨rfl, hcur1, hbel⟩
  obtain ⟨a1, cap1, ha1, _, _, _⟩ := hcur1.s
  have ho1 := hcur1.o
  go_wp2
  go_quiet (fail)
  go_wp2
  go_ret3
  exact ⟨rfl, below_drawn (hbel0.trans hbel) _⟩
end Go.Proofs.Qxb6600744a
