/-
  The walks of mag (6), sgn (8), gcd (9), ZZgcd (5).
-/
import Derived.Test.Qxb6601554aGcdBin
import Derived.Deep.QuietTactic
import Derived.BigQuiet
namespace Go.Proofs.Qxb6601554a
open Go.RowKit

theorem ret_u64 {a b : Int} (h : a = b) : Ending.returned (.int .u64 a) = .returned (.int .u64 b) := by rw [h]

theorem mag_any (x : Int) (h0 : -9223372036854775808 ≤ x) (h1 : x ≤ 9223372036854775807) (w : World) :
    Calls Try.prog 6 #[.int .i64 x] w fun e w' => e = .returned (.int .u64 (x.natAbs : Nat)) ∧ w' = w := by
  by_cases hx : x < 0
  · have e1 : IntKind.u64.wrap x = x + 18446744073709551616 := by rw [IntKind.wrap_u64]; omega
    have e2 : IntKind.u64.wrap (-(IntKind.u64.wrap x)) = (x.natAbs : Int) := by rw [e1, IntKind.wrap_u64]; omega
    clear e1
    go_enter Try.func6, Try.ntmps6
    go_wp2
    go_ret
    exact ⟨rfl, rfl⟩
  · go_enter Try.func6, Try.ntmps6
    go_wp2
    go_ret
    exact ⟨ret_u64 (by omega), rfl⟩

theorem ret_i64 {a b : Int} (h : a = b) : Ending.returned (.int .i64 a) = .returned (.int .i64 b) := by rw [h]

def sg (x : Int) : Int := if 0 < x then 1 else if x < 0 then -1 else 0
theorem sgn_any (x : Int) (w : World) : Calls Try.prog 8 #[.int .i64 x] w fun e w' => e = .returned (.int .i64 (sg x)) ∧ w' = w := by
  by_cases h1 : 0 < x
  · have e : Hid (sg x = 1) := by show _ = _; simp [sg, h1]
    go_enter Try.func8, Try.ntmps8
    go_wp2
    go_ret
    exact ⟨ret_i64 e.out.symm, rfl⟩
  · by_cases h2 : x < 0
    · have e : Hid (sg x = -1) := by show _ = _; simp [sg, h1, h2]
      go_enter Try.func8, Try.ntmps8
      go_wp2
      go_ret
      exact ⟨ret_i64 e.out.symm, rfl⟩
    · have e : Hid (sg x = 0) := by show _ = _; simp [sg, h1, h2]
      go_enter Try.func8, Try.ntmps8
      go_wp2
      go_ret
      exact ⟨ret_i64 e.out.symm, rfl⟩

/-- What gcd's loop keeps. -/
structure GS (a b x y : Int) : Prop where
  gcd : Nat.gcd x.natAbs y.natAbs = Nat.gcd a.natAbs b.natAbs
  sx : sg x = sg a ∨ sg x = sg b
  sy : y = 0 ∨ sg y = sg a ∨ sg y = sg b
  z : b = 0 → x = a ∧ y = 0

theorem sg_tmod (x y : Int) : x.tmod y = 0 ∨ sg (x.tmod y) = sg x := by
  by_cases h0 : x.tmod y = 0
  · exact .inl h0
  · right
    unfold sg
    by_cases hx : x < 0
    · have : x.tmod y ≤ 0 := by
        have h1 := Int.tmod_nonneg (a := -x) y (by omega)
        rw [Int.neg_tmod] at h1
        omega
      rw [if_neg (by omega), if_pos (by omega), if_neg (by omega), if_pos (by omega)]
    · have h1 := Int.tmod_nonneg (a := x) y (by omega)
      have hx0 : x ≠ 0 := by intro e; rw [e] at h0; simp at h0
      rw [if_pos (by omega), if_pos (by omega)]

theorem tmod_abs (x y : Int) : (x.tmod y).natAbs = x.natAbs % y.natAbs := Int.natAbs_tmod x y

theorem GS.step {a b x y : Int} (h : GS a b x y) (hy : y ≠ 0) : GS a b y (x.tmod y) := by
  refine ⟨?_, ?_, ?_, ?_⟩
  · rw [tmod_abs, ← h.gcd, Nat.gcd_comm x.natAbs, Nat.gcd_rec y.natAbs x.natAbs, Nat.gcd_comm]
  · rcases h.sy with h1 | h1
    · exact absurd h1 hy
    · exact h1
  · rcases sg_tmod x y with h1 | h1
    · exact .inl h1
    · right; rw [h1]; exact h.sx
  · intro hb
    exact absurd (h.z hb).2 hy

theorem tmod_lt (x y : Int) (hy : y ≠ 0) : (x.tmod y).natAbs < y.natAbs := by
  rw [tmod_abs]
  exact Nat.mod_lt _ (by omega)

theorem gcd_any (a b : Int) (ha0 : -9223372036854775808 ≤ a) (ha1 : a ≤ 9223372036854775807) (hb0 : -9223372036854775808 ≤ b) (hb1 : b ≤ 9223372036854775807) (w : World) :
    Calls Try.prog 9 #[.int .i64 a, .int .i64 b] w fun e w' => ∃ g : Int, e = .returned (.int .i64 g) ∧ GS a b g 0 ∧ -9223372036854775808 ≤ g ∧ g ≤ 9223372036854775807 ∧ (∃ n, w' = w.drewN n) := by
  go_enter Try.func9, Try.ntmps9
  go_wp2
  go_loopw [0, 1] (fun p q wr => ∃ (x y : Int) (n : Nat), -9223372036854775808 ≤ x ∧ x ≤ 9223372036854775807 ∧ -9223372036854775808 ≤ y ∧ y ≤ 9223372036854775807 ∧ Hid (GS a b x y) ∧ p = .int .i64 x ∧ q = .int .i64 y ∧ wr = w.drewN n) (fun _ q _ => (intOf q).natAbs)
  case atStart => exact ⟨a, b, 0, ha0, ha1, hb0, hb1, ⟨rfl, .inl rfl, .inr (.inr rfl), fun h => ⟨rfl, h⟩⟩, rfl, rfl, rfl⟩
  case round =>
    obtain ⟨x, y, n, hx0, hx1, hy0, hy1, HG, rfl, rfl, rfl⟩ := hrel
    by_cases hy : y = 0
    · have HG2 : Hid (GS a b x 0) := by rw [hy] at HG; exact HG
      have hy' : (y != 0) = false := by rw [bne_eq_false_iff_eq]; exact hy
      clear hy HG
      go_wp2
      go_ret
      exact ⟨x, rfl, HG2.out, hx0, hx1, n, rfl⟩
    · have hy' : (y != 0) = true := by rw [bne_iff_ne]; exact hy
      have hy2 : (y == 0) = false := beq_eq_false_iff_ne.2 hy
      have HG2 : Hid (GS a b y (x.tmod y)) := HG.out.step hy
      have HL : Hid ((x.tmod y).natAbs < y.natAbs) := tmod_lt x y hy
      have hr : -9223372036854775808 ≤ x.tmod y ∧ x.tmod y ≤ 9223372036854775807 := by have := HL.out; omega
      have HR : Hid (-9223372036854775808 ≤ x.tmod y ∧ x.tmod y ≤ 9223372036854775807) := hr
      clear hr HG
      go_wp2
      go_quiet (fail)
      go_wp2
      go_roundw
      case rel => exact ⟨y, x.tmod y, _, hy0, hy1, HR.out.1, HR.out.2, HG2, rfl, rfl, by rw [World.drewN_drewN]⟩
      case measure => simpa [intOf] using HL.out

theorem zzgcd_any (a b : Int) (ha0 : -9223372036854775808 ≤ a) (ha1 : a ≤ 9223372036854775807) (hb0 : -9223372036854775808 ≤ b) (hb1 : b ≤ 9223372036854775807) (w : World) :
    Calls Try.prog 5 #[.int .i64 a, .int .i64 b] w fun e w' => ∃ g : Int, e = .returned (.int .i64 g) ∧ GS a b g 0 ∧ -9223372036854775808 ≤ g ∧ g ≤ 9223372036854775807 ∧ (∃ n, w' = w.drewN n) := by
  go_enter Try.func5, Try.ntmps5
  go_wp2_with fail
  refine (gcd_any a b ha0 ha1 hb0 hb1 w).mono ?_
  rintro e w' ⟨g, rfl, hg, h0, h1, n, rfl⟩
  go_wp2_with fail
  go_ret
  exact ⟨g, rfl, hg, h0, h1, n, rfl⟩

theorem same_mono {f : FuncId} {args : Array Value} {w : World} {E : Ending} {Q : Ending → World → Prop} (h : Calls Try.prog f args w fun e w' => e = E ∧ w' = w) (k : Q E w) : Calls Try.prog f args w Q :=
  h.mono (by rintro e w' ⟨rfl, rfl⟩; exact k)

theorem law_any (a b : Int) (ha0 : -9223372036854775808 ≤ a) (ha1 : a ≤ 9223372036854775807) (hb0 : -9223372036854775808 ≤ b) (hb1 : b ≤ 9223372036854775807) (w : World) :
    Calls Try.prog 3 #[.int .i64 a, .int .i64 b] w fun e w' => e = .returned (.bool true) ∧ (∃ n, w' = w.drewN n) := by
  go_enter Try.func3, Try.ntmps3
  go_wp2_with fail
  refine (zzgcd_any a b ha0 ha1 hb0 hb1 w).mono ?_
  rintro e w' ⟨g, rfl, hg, h0, h1, n, rfl⟩
  have hgb : b = 0 → g = a := fun h => (hg.z h).1
  have HGC : Hid (g.natAbs = Nat.gcd a.natAbs b.natAbs) := by show _ = _; have := hg.gcd; simpa using this
  have hsx := hg.sx
  clear hg
  by_cases hb : b = 0
  · have hb' : (b == 0) = true := beq_iff_eq.2 hb
    have hga : (g != a) = false := by rw [bne_eq_false_iff_eq]; exact hgb hb
    clear hgb hb
    go_wp2_with fail
    refine same_mono (mag_any g h0 h1 _) ?_
    go_wp2_with fail
    refine same_mono (mag_any a ha0 ha1 _) ?_
    go_wp2_with fail
    refine same_mono (mag_any b hb0 hb1 _) ?_
    go_wp2_with fail
    refine same_mono (bin_any a.natAbs b.natAbs (by omega) (by omega) _) ?_
    rw [← HGC.out]
    go_wp2_with fail
    refine same_mono (sgn_any g _) ?_
    go_wp2_with fail
    refine same_mono (sgn_any a _) ?_
    by_cases hs : sg g = sg a
    · have hs' : (sg g == sg a) = true := beq_iff_eq.2 hs
      clear hs hsx
      go_wp2_with fail
      go_ret
      exact ⟨rfl, n, rfl⟩
    · have hs' : (sg g == sg a) = false := beq_eq_false_iff_ne.2 hs
      have hs2 : (sg g == sg b) = true := beq_iff_eq.2 (hsx.resolve_left hs)
      clear hs hsx
      go_wp2_with fail
      refine same_mono (sgn_any b _) ?_
      go_wp2_with fail
      go_ret
      exact ⟨rfl, n, rfl⟩
  · have hb' : (b == 0) = false := beq_eq_false_iff_ne.2 hb
    clear hgb hb
    go_wp2_with fail
    refine same_mono (mag_any g h0 h1 _) ?_
    go_wp2_with fail
    refine same_mono (mag_any a ha0 ha1 _) ?_
    go_wp2_with fail
    refine same_mono (mag_any b hb0 hb1 _) ?_
    go_wp2_with fail
    refine same_mono (bin_any a.natAbs b.natAbs (by omega) (by omega) _) ?_
    rw [← HGC.out]
    go_wp2_with fail
    refine same_mono (sgn_any g _) ?_
    go_wp2_with fail
    refine same_mono (sgn_any a _) ?_
    by_cases hs : sg g = sg a
    · have hs' : (sg g == sg a) = true := beq_iff_eq.2 hs
      clear hs hsx
      go_wp2_with fail
      go_ret
      exact ⟨rfl, n, rfl⟩
    · have hs' : (sg g == sg a) = false := beq_eq_false_iff_ne.2 hs
      have hs2 : (sg g == sg b) = true := beq_iff_eq.2 (hsx.resolve_left hs)
      clear hs hsx
      go_wp2_with fail
      refine same_mono (sgn_any b _) ?_
      go_wp2_with fail
      go_ret
      exact ⟨rfl, n, rfl⟩
end Go.Proofs.Qxb6601554a
