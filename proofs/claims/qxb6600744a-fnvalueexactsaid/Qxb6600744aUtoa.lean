/-
  The walk of utoa (16).
-/
import Derived.Test.Qxb6600744aZzuint
namespace Go.Proofs.Qxb6600744a
open Go.RowKit

theorem run_arr (N m : Nat) (h : m < 20) (w : World) :
    (Instr.sliceAt 48 (.pointer (some ⟨N, 0, none⟩)) (some (.int .i64 (m : Int))) none none).run Try.prog w = .ok (.slice (some ⟨N, m, none⟩) (20 - m) (20 - m)) w := by
  have hl : Try.prog.arrayLen 48 = 20 := by kernel_rfl
  have he : Try.prog.elem 48 = 5 := by kernel_rfl
  have ht : Try.prog.underlying 48 = some (.array (Try.prog.arrayLen 48) (Try.prog.elem 48)) := by rw [hl, he]; exact Try.underlying48
  rw [run_sliceAt_array_l w 48 _ ht .i64 _ (by omega) (by omega), he, sz5, hl]
  simp [Result.andThen, slicedAt, show ¬ 20 = m by omega, Go.WideShapes.add_plain]

theorem utoa_any (v : Int) (hv0 : 0 ≤ v) (hv1 : v ≤ 18446744073709551615) (w : World) :
    Calls Try.prog 16 #[.int .u64 v] w fun e w' => ∃ ds, e = .returned (.string (strOfNums ds)) ∧ Utoa v ds ∧ Below w.heap.size w w' := by
  go_enter Try.func16, Try.ntmps16
  go_wp2
  go_loopw [0, 4] (fun u i wr => ∃ (m : Nat) (x : Int) (ds : List Int), m + ds.length = 20 ∧ i = .int .i64 m ∧ u = .int .u64 x ∧ x ≤ 18446744073709551615 ∧ UPre v x ds ∧ (ds = [] ∨ 0 < x) ∧ wr.rowIs w.heap.size 48 20 (fun j => if j < m then .int .u8 0 else .int .u8 (ds.getD (j - m) 0)) ∧ Below w.heap.size w wr) (fun u _ _ => (intOf u).toNat)
  case atStart =>
    refine ⟨20, v, [], by simp, rfl, rfl, hv1, UPre.start v hv0, .inl rfl, ?_, (Below.refl _ _).alloc (Nat.le_refl _) _⟩
    refine World.rowIs_alloc w _ 48 _ (fun i hi => ?_)
    have hi' : i < 20 := hi
    rw [if_pos hi']
    match i, hi' with
    | 0, _ | 1, _ | 2, _ | 3, _ | 4, _ | 5, _ | 6, _ | 7, _ | 8, _ | 9, _ | 10, _ | 11, _ | 12, _ | 13, _ | 14, _ | 15, _ | 16, _ | 17, _ | 18, _ | 19, _ => rfl
    | n + 20, h => exact absurd h (by omega)
  case round =>
    obtain ⟨m, x, ds, hm, rfl, rfl, hx1, hu, hp, hr, hb⟩ := hrel
    have hx0 := hu.2.2
    have hlen : ds.length < 20 := by
      rcases hp with rfl | hp
      · simp
      · exact hu.room hp hv1
    obtain ⟨n, rfl⟩ : ∃ n, m = n + 1 := ⟨m - 1, by omega⟩
    have hf := hr.frozen n
    have hc := hr.cell (i := n) (by omega)
    rw [if_pos (by omega)] at hc
    have HR : Hid ((wr.setCell ⟨w.heap.size, n, none⟩ (.int .u8 (48 + x % 10))).rowIs w.heap.size 48 20 (fun j => if j < n then .int .u8 0 else .int .u8 (((48 + x % 10) :: ds).getD (j - n) 0))) := by
      refine (hr.set n (.int .u8 (48 + x % 10))).congr (fun j hj => ?_)
      by_cases e : j = n
      · subst e; simp
      · by_cases e2 : j < n
        · simp [e, e2, show j < n + 1 by omega]
        · obtain ⟨q, rfl⟩ : ∃ q, j = n + 1 + q := ⟨j - (n + 1), by omega⟩
          simp [e2, show n + 1 + q - n = q + 1 by omega, show ¬ n + 1 + q = n by omega, show ¬ n + 1 + q < n + 1 by omega]
    have hsl := run_arr w.heap.size n (by omega)
    have hn : n < 20 := by omega
    clear hr
    by_cases hq : x < 10
    · have hq0 : (x / 10 == 0) = true := beq_iff_eq.2 (by omega)
      have hun := hu.done hq hp hlen
      have hholds : Holds (w.heap.size + 1) (wr.setCell ⟨w.heap.size, n, none⟩ (.int .u8 (48 + x % 10))) (some ⟨w.heap.size, n, none⟩) ((48 + x % 10) :: ds) := by
        refine .inr ⟨w.heap.size, n, rfl, by omega, fun k hk => ?_⟩
        have := HR.out.cell (i := n + k) (by simp at hk; omega)
        rw [this, if_neg (by omega), show n + k - n = k by omega]
      have hconv := run_str hholds (20 - n)
      have hl2 : ((48 + x % 10) :: ds).length = 20 - n := by simp; omega
      rw [hl2] at hconv
      clear hl2 HR hu hp hholds
      generalize (48 + x % 10) :: ds = ds' at hun hconv
      go_wp2
      go_ret
      exact ⟨ds', rfl, hun, hb.setCell (by simp) _⟩
    · have hq0 : (x / 10 == 0) = false := beq_eq_false_iff_ne.2 (by omega)
      have hun := hu.step
      clear hu hp
      go_wp2
      go_roundw
      case rel => exact ⟨n, x / 10, (48 + x % 10) :: ds, by simp; omega, by go_num, rfl, by omega, hun, .inr (by omega), HR.out, hb.setCell (by simp) _⟩
      case measure => simp [intOf]; omega
end Go.Proofs.Qxb6600744a
