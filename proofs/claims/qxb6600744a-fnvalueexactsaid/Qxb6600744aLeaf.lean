/-
  Leaf contracts: isDigit (14), safeByte (22), the zzBytes, cloneBytes (12).
-/
import Derived.Test.Qxb6600744aBase
import Derived.Test.Qxb6600744aPlain
import Derived.Deep.OwnRows
import Derived.OpenShut
namespace Go.Proofs.Qxb6600744a
open Go.RowKit

theorem info5 : (Try.prog.info? 5).map (fun i => (i.zero, i.size, i.bytes)) = some (some (.int .u8 0), 1, 1) := by kernel_rfl

theorem isDigit_any (c : Int) (w : World) :
    Calls Try.prog 14 #[.int .u8 c] w fun e w' => e = .returned (.bool (isDig c)) ∧ w' = w := by
  by_cases h1 : 48 ≤ c
  · by_cases h2 : c ≤ 57
    all_goals
      go_enter Try.func14, Try.ntmps14
      go_wp2
      go_ret
      exact ⟨by simp [isDig, *] <;> omega, rfl⟩
  · go_enter Try.func14, Try.ntmps14
    go_wp2
    go_ret
    exact ⟨by simp [isDig, *]; omega, rfl⟩

theorem ret_bool {a b : Bool} (h : a = b) : Ending.returned (.bool a) = .returned (.bool b) := by rw [h]
theorem safeByte_any (c : Int) (w : World) :
    Calls Try.prog 22 #[.int .u8 c] w fun e w' => e = .returned (.bool (safe c)) ∧ w' = w := by
  go_enter Try.func22, Try.ntmps22
  go_wp2
  all_goals
    go_ret
    refine ⟨ret_bool ?_, rfl⟩
    try simp only [beq_iff_eq, beq_eq_false_iff_ne] at *
    symm
    unfold safe
    first | exact decide_eq_false (by omega) | exact decide_eq_true (by omega)

theorem clone_nil (w : World) : Calls Try.prog 12 #[.slice none 0 0] w fun e w' => e = .returned (.slice none 0 0) ∧ w' = w := by
  have he := fun w => Lib.run_eql_slice_nil (P := Try.prog) w 22 5 none 0 0 0 0 Try.underlying22
  go_enter Try.func12, Try.ntmps12
  go_wp2
  go_ret
  exact ⟨rfl, rfl⟩

theorem clone_some (x : Addr) (cap : Nat) (bs : List Int) (w : World) (hl : bs.length ≤ 1048576) (hh : Holds w.heap.size w (some x) bs) :
    Calls Try.prog 12 #[.slice (some x) bs.length cap] w fun e w' => e = .returned (.slice (some ⟨w.heap.size, 0, none⟩) bs.length bs.length) ∧ w'.rowIs w.heap.size 5 bs.length (fun j => .int .u8 (bs.getD j 0)) ∧ Below w.heap.size w w' := by
  have he := fun w => Lib.run_eql_slice_nil (P := Try.prog) w 22 5 (some x) bs.length cap 0 0 Try.underlying22
  have hmk := run_make_row' (P := Try.prog) 22 5 (.int .u8 0) 1 Try.underlying22 info5 rfl .i64 .i64 bs.length (by omega) (by omega)
  go_enter Try.func12, Try.ntmps12
  go_wp2
  go_loopw [4] (fun i wr => ∃ k : Nat, k ≤ bs.length ∧ i = .int .i64 k ∧ wr.rowIs w.heap.size 5 bs.length (fun j => if j < k then .int .u8 (bs.getD j 0) else .int .u8 0) ∧ Below w.heap.size w wr) (fun i _ => bs.length - (intOf i).toNat)
  case atStart => exact ⟨0, Nat.zero_le _, rfl, (World.rowIs_made _ _ _ _).congr (fun i _ => by simp), (Below.refl _ _).alloc (Nat.le_refl _) _⟩
  case round =>
    obtain ⟨k, hk, rfl, hr, hbel⟩ := hrel
    by_cases hlt : k < bs.length
    · rcases hh with rfl | ⟨b, off, hx, hbb, hcell⟩
      · simp at hlt
      · obtain rfl := Option.some.inj hx
        have hc1 : wr.cell? ⟨b, off + k, none⟩ = some (.int .u8 (bs.getD k 0)) := (hbel.cell (by exact hbb)).trans (hcell k hlt)
        have hc2 := hr.cell hlt
        have hf2 := hr.frozen k
        simp only [Nat.lt_irrefl, if_false] at hc2
        have hr2 := hr.set k (.int .u8 (bs.getD k 0))
        have HR := hr2.congr (g := fun j => if j < k + 1 then .int .u8 (bs.getD j 0) else .int .u8 0) (fun j _ => by
          by_cases e : j = k
          · subst e; simp
          · by_cases e2 : j < k
            · simp [e, e2, show j < k + 1 by omega]
            · simp [e, e2, show ¬ j < k + 1 by omega])
        have HR2 : Hid ((wr.setCell ⟨w.heap.size, k, none⟩ (.int .u8 (bs.getD k 0))).rowIs w.heap.size 5 bs.length (fun j => if j < k + 1 then .int .u8 (bs.getD j 0) else .int .u8 0)) := HR
        clear hr2 HR hr hcell he hmk
        generalize bs.getD k 0 = c at hc1 HR2
        go_wp2
        go_roundw
        case rel => exact ⟨k + 1, by omega, by go_num, HR2.out, hbel.setCell (by simp) _⟩
        case measure => simp [intOf]; omega
    · clear he hmk
      go_wp2
      go_ret
      exact ⟨rfl, hr.congr (fun j hj => by simp [show j < k by omega]), hbel⟩

theorem rowIs_holds {w : World} {b : Nat} {bs : List Int} (h : w.rowIs b 5 bs.length (fun j => .int .u8 (bs.getD j 0))) : Holds w.heap.size w (some ⟨b, 0, none⟩) bs :=
  .inr ⟨b, 0, rfl, h.lt, fun k hk => by rw [Nat.zero_add]; exact h.cell hk⟩

/-- cloneBytes, whatever slice of at most 2^20 bytes comes in. -/
theorem clone_any {w : World} {a : Option Addr} {cap : Nat} {bs : List Int} (hl : bs.length ≤ 1048576) (hh : Holds w.heap.size w a bs) (hn : a = none → bs = [] ∧ cap = 0) :
    Calls Try.prog 12 #[.slice a bs.length cap] w fun e w' => ∃ a' cap', e = .returned (.slice a' bs.length cap') ∧ Holds w'.heap.size w' a' bs ∧ bs.length ≤ cap' ∧ cap' ≤ 1048576 ∧ Below w.heap.size w w' := by
  cases a with
  | none =>
    obtain ⟨rfl, rfl⟩ := hn rfl
    refine (clone_nil w).mono ?_
    rintro e w' ⟨rfl, rfl⟩
    exact ⟨none, 0, rfl, .inl rfl, Nat.le_refl _, by omega, Below.refl _ _⟩
  | some x =>
    refine (clone_some x cap bs w hl hh).mono ?_
    rintro e w' ⟨rfl, hr, hb⟩
    exact ⟨_, _, rfl, rowIs_holds hr, Nat.le_refl _, hl, hb⟩

theorem cell_lt {w : World} {b o : Nat} {v : Value} (h : w.cell? ⟨b, o, none⟩ = some v) : b < w.heap.size := by
  by_cases hb : b < w.heap.size
  · exact hb
  · have : w.heap[b]? = none := Array.getElem?_eq_none (by omega)
    simp [World.cell?, this] at h

/-- From the shell's 'IsRow' to 'Holds'. -/
theorem row_holds {w : World} {a : Option Addr} {len cap : Nat} {zs : List Int}
    (h : (a = none ∧ len = 0 ∧ cap = 0 ∧ zs = []) ∨ ∃ x, a = some x ∧ len ≤ cap ∧ cap ≤ maxLen ∧ zs.length = cap ∧ (∀ i, i < zs.length → w.cell? (x.add i) = some (.int .u8 (zs.getD i 0))) ∧ ∀ n ∈ zs, (Lit.int .u8 n).wf = true) :
    ∃ bs : List Int, bs.length = len ∧ Bts bs ∧ Holds w.heap.size w a bs ∧ (a = none → bs = [] ∧ cap = 0) := by
  rcases h with ⟨rfl, rfl, rfl, rfl⟩ | ⟨x, rfl, h1, h2, h3, h4, h5⟩
  · exact ⟨[], rfl, fun x hx => by simp at hx, .inl rfl, fun _ => ⟨rfl, rfl⟩⟩
  · refine ⟨zs.take len, by rw [List.length_take]; omega, fun n hn => ?_, ?_, fun h => by cases h⟩
    · have := h5 n (List.mem_of_mem_take hn)
      have := bounds_u8 this
      omega
    · by_cases h0 : len = 0
      · subst h0; exact .inl (by simp)
      · obtain ⟨b, off, spot⟩ := x
        have hspot : spot = none := by simpa [Addr.add] using World.cell?_spot (h4 0 (by omega))
        subst hspot
        have hc := h4 0 (by omega)
        refine .inr ⟨b, off, rfl, ?_, fun k hk => ?_⟩
        · rw [Go.WideShapes.add_plain] at hc
          exact cell_lt hc
        · rw [List.length_take] at hk
          have := h4 k (by omega)
          rw [Go.WideShapes.add_plain] at this
          rw [this]
          simp [List.getD, show k < len by omega]

/-! ### The bounds laid by program: 11, 17, 18, 21, 23, 27, 28 -/
theorem zz11_y (a : Option Addr) (len cap : Nat) (ok : Bool) (w : World) (h : len ≤ 1048576) :
    Calls Try.prog 11 #[.slice a len cap, .bool ok] w fun e w' => e = .returned (.bool true) ∧ w' = w := by
  go_enter Try.func11, Try.ntmps11
  go_wp2
  go_ret
  exact ⟨rfl, rfl⟩
theorem zz11_n (a : Option Addr) (len cap : Nat) (ok : Bool) (w : World) (h : 1048576 < len) :
    Calls Try.prog 11 #[.slice a len cap, .bool ok] w fun e w' => e = .returned (.bool false) ∧ w' = w := by
  go_enter Try.func11, Try.ntmps11
  go_wp2
  go_ret
  exact ⟨rfl, rfl⟩
theorem zz17_y (a : Option Addr) (len cap : Nat) (v : Int) (w : World) (h : len ≤ 1048576) :
    Calls Try.prog 17 #[.int .u64 v, .slice a len cap] w fun e w' => e = .returned (.bool true) ∧ w' = w := by
  go_enter Try.func17, Try.ntmps17
  go_wp2
  go_ret
  exact ⟨rfl, rfl⟩
theorem zz17_n (a : Option Addr) (len cap : Nat) (v : Int) (w : World) (h : 1048576 < len) :
    Calls Try.prog 17 #[.int .u64 v, .slice a len cap] w fun e w' => e = .returned (.bool false) ∧ w' = w := by
  go_enter Try.func17, Try.ntmps17
  go_wp2
  go_ret
  exact ⟨rfl, rfl⟩
theorem zz18_y (a : Option Addr) (len cap : Nat) (ok : Bool) (w : World) (h : len ≤ 1048576) :
    Calls Try.prog 18 #[.slice a len cap, .bool ok] w fun e w' => e = .returned (.bool true) ∧ w' = w := by
  go_enter Try.func18, Try.ntmps18
  go_wp2
  go_ret
  exact ⟨rfl, rfl⟩
theorem zz18_n (a : Option Addr) (len cap : Nat) (ok : Bool) (w : World) (h : 1048576 < len) :
    Calls Try.prog 18 #[.slice a len cap, .bool ok] w fun e w' => e = .returned (.bool false) ∧ w' = w := by
  go_enter Try.func18, Try.ntmps18
  go_wp2
  go_ret
  exact ⟨rfl, rfl⟩
theorem zz21_y (s : ByteArray) (p c : Int) (a : Option Addr) (len cap : Nat) (w : World) (h : s.size + len ≤ 1048576) :
    Calls Try.prog 21 #[.string s, .int .i64 p, .int .u8 c, .slice a len cap] w fun e w' => e = .returned (.bool true) ∧ w' = w := by
  go_enter Try.func21, Try.ntmps21
  go_wp2
  go_ret
  exact ⟨rfl, rfl⟩
theorem zz21_n (s : ByteArray) (p c : Int) (a : Option Addr) (len cap : Nat) (w : World) (hs : s.size ≤ maxLen) (hl : len ≤ maxLen) (h : 1048576 < s.size + len) :
    Calls Try.prog 21 #[.string s, .int .i64 p, .int .u8 c, .slice a len cap] w fun e w' => e = .returned (.bool false) ∧ w' = w := by
  unfold maxLen at hs hl
  go_enter Try.func21, Try.ntmps21
  go_wp2
  all_goals
    go_ret
    exact ⟨rfl, rfl⟩
theorem zz23_y (a : Option Addr) (len cap : Nat) (ok : Bool) (d : Int) (w : World) (h : len ≤ 1048576) :
    Calls Try.prog 23 #[.slice a len cap, .bool ok, .int .i64 d] w fun e w' => e = .returned (.bool true) ∧ w' = w := by
  go_enter Try.func23, Try.ntmps23
  go_wp2
  go_ret
  exact ⟨rfl, rfl⟩
theorem zz23_n (a : Option Addr) (len cap : Nat) (ok : Bool) (d : Int) (w : World) (h : 1048576 < len) :
    Calls Try.prog 23 #[.slice a len cap, .bool ok, .int .i64 d] w fun e w' => e = .returned (.bool false) ∧ w' = w := by
  go_enter Try.func23, Try.ntmps23
  go_wp2
  go_ret
  exact ⟨rfl, rfl⟩
theorem zz27_y (s : ByteArray) (d : Int) (a : Option Addr) (len cap : Nat) (w : World) (h : len + s.size ≤ 1048576) :
    Calls Try.prog 27 #[.slice a len cap, .string s, .int .i64 d] w fun e w' => e = .returned (.bool true) ∧ w' = w := by
  go_enter Try.func27, Try.ntmps27
  go_wp2
  go_ret
  exact ⟨rfl, rfl⟩
theorem zz27_n (s : ByteArray) (d : Int) (a : Option Addr) (len cap : Nat) (w : World) (hs : s.size ≤ maxLen) (hl : len ≤ maxLen) (h : 1048576 < len + s.size) :
    Calls Try.prog 27 #[.slice a len cap, .string s, .int .i64 d] w fun e w' => e = .returned (.bool false) ∧ w' = w := by
  unfold maxLen at hs hl
  go_enter Try.func27, Try.ntmps27
  go_wp2
  all_goals
    go_ret
    exact ⟨rfl, rfl⟩
theorem zz28_y (s : ByteArray) (a : Option Addr) (len cap : Nat) (w : World) (h : s.size + len ≤ 1048576) :
    Calls Try.prog 28 #[.string s, .slice a len cap] w fun e w' => e = .returned (.bool true) ∧ w' = w := by
  go_enter Try.func28, Try.ntmps28
  go_wp2
  go_ret
  exact ⟨rfl, rfl⟩
theorem zz28_n (s : ByteArray) (a : Option Addr) (len cap : Nat) (w : World) (hs : s.size ≤ maxLen) (hl : len ≤ maxLen) (h : 1048576 < s.size + len) :
    Calls Try.prog 28 #[.string s, .slice a len cap] w fun e w' => e = .returned (.bool false) ∧ w' = w := by
  unfold maxLen at hs hl
  go_enter Try.func28, Try.ntmps28
  go_wp2
  all_goals
    go_ret
    exact ⟨rfl, rfl⟩
end Go.Proofs.Qxb6600744a
