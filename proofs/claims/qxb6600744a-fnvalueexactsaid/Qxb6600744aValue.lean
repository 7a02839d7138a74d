/-
  The cursor's value (31), whole, and ZZValue (24).
-/
import Derived.Test.Qxb6600744aValueObj
namespace Go.Proofs.Qxb6600744a
open Go.RowKit

theorem value_all (bc : Nat) : ∀ f, ValueAt f bc := by
  intro f
  induction f using Nat.strongRecOn with
  | ind f IH =>
    intro d bs w h hf hin
    obtain ⟨n, rfl⟩ : ∃ n, f = n + 1 := ⟨f - 1, by omega⟩
    by_cases hd : d = 32
    · have e : rd (n + 1) 0 d bs = none := by rw [rd0, if_pos hd]
      rw [e]
      exact value_stop d h (.inr hd)
    · have hd' : (d == 32) = false := beq_eq_false_iff_ne.2 hd
      cases bs with
      | nil =>
        have e : rd (n + 1) 0 d [] = none := by rw [rd0, if_neg hd]
        rw [e]
        exact value_stop d h (.inl rfl)
      | cons c r =>
        have hin' : Hid (inInt d) := hin
        have IH' : Hid (∀ g, g < n → ValueAt g bc) := fun g hg => IH g (by omega)
        by_cases h1 : c = 123
        · have e : rd (n + 1) 0 d (c :: r) = rd n 3 d r := by rw [rd0, if_neg hd]; simp [h1]
          exact value_obj d h hd' hin' (by simp at hf ⊢; omega) (by simp) (by simpa using h1) IH' _ (show _ = _ by rw [e]; rfl)
        · by_cases h2 : c = 91
          · have e : rd (n + 1) 0 d (c :: r) = rd n 1 d r := by rw [rd0, if_neg hd]; simp [h2]
            exact value_arr d h hd' hin' (by simp at hf ⊢; omega) (by simp) (by simpa using h2) IH' _ (show _ = _ by rw [e]; rfl)
          · have e : rd (n + 1) 0 d (c :: r) = leaf c (c :: r) := by rw [rd0, if_neg hd]; simp [h1, h2]
            rw [e]
            exact value_leaf d h hd' (by simp) c (by simp) h1 h2

theorem zzvalue_some {w : World} {a : Option Addr} {cap : Nat} {bs r : List Int} (d : Int) (f : Nat) (hf : 2 * bs.length + 1 ≤ f) (hr : rd f 0 d bs = some r) (hin : inInt d) (hh : Holds w.heap.size w a bs) (hc : bs.length ≤ cap) (hm : cap ≤ 4194304) (hb : Bts bs) :
    Calls Try.prog 24 #[.slice a bs.length cap, .bool true, .int .i64 d] w fun e w' => e = .returned (.tuple #[.int .i64 (r.length : Nat), .bool true]) ∧ Below w.heap.size w w' := by
  have hcur := cur_new true hh hc hm hb
  have hbel0 : Below w.heap.size w (w.alloc (.cells #[.slice a bs.length cap, .bool true] 46)) := (Below.refl _ _).alloc (Nat.le_refl _) _
  have hv := value_all w.heap.size f d bs _ hcur hf hin
  rw [hr] at hv
  clear hr
  go_enter Try.func24, Try.ntmps24
  go_wp2_with fail
  refine hv.mono ?_
  rintro e w1 ⟨rfl, hcur1, hbel⟩
  have hcur1 : Cur w1 w.heap.size r true := hcur1
  obtain ⟨a1, cap1, ha1, _, _, _⟩ := hcur1.s
  have ho1 := hcur1.o
  clear hv hcur
  go_wp2_with fail
  go_quiet (fail)
  go_wp2_with fail
  go_ret2
  exact ⟨rfl, below_drawn (hbel0.trans hbel) _⟩

theorem zzvalue_none {w : World} {a : Option Addr} {cap : Nat} {bs : List Int} (d : Int) (f : Nat) (hf : 2 * bs.length + 1 ≤ f) (hr : rd f 0 d bs = none) (hin : inInt d) (hh : Holds w.heap.size w a bs) (hc : bs.length ≤ cap) (hm : cap ≤ 4194304) (hb : Bts bs) :
    Calls Try.prog 24 #[.slice a bs.length cap, .bool true, .int .i64 d] w fun e w' => ∃ n : Nat, e = .returned (.tuple #[.int .i64 n, .bool false]) ∧ Below w.heap.size w w' := by
  have hcur := cur_new true hh hc hm hb
  have hbel0 : Below w.heap.size w (w.alloc (.cells #[.slice a bs.length cap, .bool true] 46)) := (Below.refl _ _).alloc (Nat.le_refl _) _
  have hv := value_all w.heap.size f d bs _ hcur hf hin
  rw [hr] at hv
  clear hr
  go_enter Try.func24, Try.ntmps24
  go_wp2_with fail
  refine hv.mono ?_
  rintro e w1 ⟨rfl, ⟨r, hcur1⟩, hbel⟩
  obtain ⟨a1, cap1, ha1, _, _, _⟩ := hcur1.s
  have ho1 := hcur1.o
  clear hv hcur
  go_wp2_with fail
  go_quiet (fail)
  go_wp2_with fail
  go_ret2
  exact ⟨r.length, rfl, below_drawn (hbel0.trans hbel) _⟩

theorem zzvalue_dead {w : World} {a : Option Addr} {cap : Nat} {bs : List Int} (d : Int) (hh : Holds w.heap.size w a bs) (hc : bs.length ≤ cap) (hm : cap ≤ 4194304) (hb : Bts bs) :
    Calls Try.prog 24 #[.slice a bs.length cap, .bool false, .int .i64 d] w fun e w' => e = .returned (.tuple #[.int .i64 (bs.length : Nat), .bool false]) ∧ Below w.heap.size w w' := by
  have hcur := cur_new false hh hc hm hb
  have hbel0 : Below w.heap.size w (w.alloc (.cells #[.slice a bs.length cap, .bool false] 46)) := (Below.refl _ _).alloc (Nat.le_refl _) _
  have hv := value_dead d hcur
  go_enter Try.func24, Try.ntmps24
  go_wp2_with fail
  refine hv.mono ?_
  rintro e w1 ⟨rfl, hcur1, hbel⟩
  obtain ⟨a1, cap1, ha1, _, _, _⟩ := hcur1.s
  have ho1 := hcur1.o
  clear hv hcur
  go_wp2_with fail
  go_quiet (fail)
  go_wp2_with fail
  go_ret2
  exact ⟨rfl, below_drawn (hbel0.trans hbel) _⟩
end Go.Proofs.Qxb6600744a
