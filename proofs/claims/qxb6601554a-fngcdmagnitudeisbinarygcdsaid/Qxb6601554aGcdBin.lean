/-
  The walk of binGcd (7).
-/
import Derived.Test.Qxb6601554aRows
import Derived.Test.Qxb6601554aGcdPlain
import Derived.WalkKit
import Derived.WalkSpells
import Derived.ProofKit
import Derived.Below
import Derived.Laws.Bits64b
namespace Go.Proofs.Qxb6601554a
open Go.RowKit

theorem and1 (x : Nat) (h : x ≤ 18446744073709551615) : bits BinOp.and IntKind.u64 (x : Int) 1 = ((x % 2 : Nat) : Int) := by
  have := bits_and_u64_nat x 1 (by omega) (by omega)
  rw [Nat.and_one_is_mod] at this
  exact this

theorem orand1 (x y : Nat) (hx : x ≤ 18446744073709551615) (hy : y ≤ 18446744073709551615) : bits BinOp.and IntKind.u64 (bits BinOp.or IntKind.u64 (x : Int) (y : Int)) 1 = (((x ||| y) % 2 : Nat) : Int) := by
  rw [bits_or_u64_nat x y (by omega) (by omega)]
  have hlt : x ||| y < 2 ^ 64 := Nat.or_lt_two_pow (by omega) (by omega)
  exact and1 _ (by omega)

set_option maxHeartbeats 1600000 in
theorem bin_pos (u v : Nat) (hu0 : 0 < u) (hv0 : 0 < v) (hu : u ≤ 18446744073709551615) (hv : v ≤ 18446744073709551615) (G : Nat) (hGm : G ≤ 18446744073709551615) (hG : Hid (Nat.gcd u v = G)) (w : World) :
    Calls Try.prog 7 #[.int .u64 (u : Int), .int .u64 (v : Int)] w fun e w' => e = .returned (.int .u64 (G : Int)) ∧ w' = w := by
  have e0 : ((u : Int) == 0) = false := beq_eq_false_iff_ne.2 (by omega)
  have e1 : ((v : Int) == 0) = false := beq_eq_false_iff_ne.2 (by omega)
  go_enter Try.func7, Try.ntmps7
  go_wp2
  go_loop [0, 1, 5] (fun p q t => ∃ x y s : Nat, 0 < x ∧ 0 < y ∧ s ≤ 63 ∧ x ≤ 18446744073709551615 ∧ y ≤ 18446744073709551615 ∧ Nat.gcd x y * 2 ^ s = G ∧ x * 2 ^ s = u ∧ p = .int .u64 x ∧ q = .int .u64 y ∧ t = .int .u64 s) (fun p _ _ => (intOf p).toNat)
  case atStart => exact ⟨u, v, 0, hu0, hv0, by omega, hu, hv, by rw [hG.out]; simp, by simp, rfl, rfl, rfl⟩
  case round =>
    obtain ⟨x, y, s, hx0, hy0, hs, hx, hy, hg, hxs, rfl, rfl, rfl⟩ := hrel
    have HG : Hid (Nat.gcd x y * 2 ^ s = G) := hg
    have HX : Hid (x * 2 ^ s = u) := hxs
    clear hg hxs hG
    by_cases hev : x % 2 = 0 ∧ y % 2 = 0
    · have hb : bits BinOp.and IntKind.u64 (bits BinOp.or IntKind.u64 (x : Int) (y : Int)) 1 = 0 := by rw [orand1 x y hx hy, (or_even x y).2 hev]; rfl
      have HG2 : Hid (Nat.gcd (x / 2) (y / 2) * 2 ^ (s + 1) = G) := even_step hev.1 hev.2 HG.out
      have HX2 : Hid (x / 2 * 2 ^ (s + 1) = u) := half_step hev.1 HX.out
      have hs1 : s + 1 ≤ 63 := shift_le (x := x / 2) (by omega) (by rw [HX2.out]; exact hu)
      obtain ⟨h2x, h2y⟩ := hev
      have hx2 : 2 ≤ x := by omega
      have hy2 : 2 ≤ y := by omega
      clear h2x h2y
      go_wp2
      go_round
      case rel => exact ⟨x / 2, y / 2, s + 1, by omega, by omega, hs1, by omega, by omega, HG2.out, HX2.out, by go_num, by go_num, by go_num⟩
      case measure => simp [intOf]; omega
    · have hb : bits BinOp.and IntKind.u64 (bits BinOp.or IntKind.u64 (x : Int) (y : Int)) 1 = 1 := by
        rw [orand1 x y hx hy]
        have := (or_even x y)
        have h2 : (x ||| y) % 2 = 1 := by omega
        rw [h2]; rfl
      have hodd : x % 2 = 1 ∨ y % 2 = 1 := by omega
      have HOD : Hid (x % 2 = 1 ∨ y % 2 = 1) := hodd
      clear hev hodd HX
      go_wp2
      clear hb
      go_loop [0] (fun p => ∃ z : Nat, 0 < z ∧ z ≤ 18446744073709551615 ∧ Hid (z % 2 = 1 ∨ y % 2 = 1) ∧ Hid (Nat.gcd z y * 2 ^ s = G) ∧ p = .int .u64 z) (fun p => (intOf p).toNat)
      case atStart => exact ⟨x, hx0, hx, HOD, HG, rfl⟩
      case round =>
        clear HOD HG hx0 hx
        obtain ⟨z, hz0, hz, HOD, HG, rfl⟩ := hrel
        by_cases hev : z % 2 = 0
        · have hb : bits BinOp.and IntKind.u64 (z : Int) 1 = 0 := by rw [and1 z hz, hev]; rfl
          have hyo : y % 2 = 1 := by have := HOD.out; omega
          have HG2 : Hid (Nat.gcd (z / 2) y * 2 ^ s = G) := by show _ = _; rw [half_left hev hyo]; exact HG.out
          have HO2 : Hid (z / 2 % 2 = 1 ∨ y % 2 = 1) := .inr hyo
          have hz2 : 2 ≤ z := by omega
          clear hev hyo
          go_wp2
          go_round
          case rel => exact ⟨z / 2, by omega, by omega, HO2, HG2, by go_num⟩
          case measure => simp [intOf]; omega
        · have hb : bits BinOp.and IntKind.u64 (z : Int) 1 = 1 := by rw [and1 z hz, show z % 2 = 1 by omega]; rfl
          have HZ : Hid (z % 2 = 1) := by show _ = _; omega
          clear hev HOD
          go_wp2
          clear hb
          go_loop [0, 1] (fun p q => ∃ m n : Nat, 0 < m ∧ m ≤ 18446744073709551615 ∧ n ≤ 18446744073709551615 ∧ Hid (m % 2 = 1) ∧ Hid (Nat.gcd m n * 2 ^ s = G) ∧ p = .int .u64 m ∧ q = .int .u64 n) (fun p q => (intOf p).toNat + (intOf q).toNat)
          case atStart => exact ⟨z, y, hz0, hz, hy, HZ, HG, rfl, rfl⟩
          case round =>
            clear HZ HG hz0 hz hy0 hy
            obtain ⟨m, n, hm0, hm, hn, HM, HG, rfl, rfl⟩ := hrel
            by_cases hn0 : n = 0
            · have hne : ((n : Int) != 0) = false := by rw [bne_eq_false_iff_eq]; omega
              have hwr : IntKind.u64.wrap ((m : Int) * 2 ^ s) = (G : Int) := by
                have h1 : m * 2 ^ s = G := by have := HG.out; rw [hn0, Nat.gcd_zero_right] at this; exact this
                have h2 : (m : Int) * 2 ^ s = (G : Int) := by rw [← h1]; simp
                rw [h2, IntKind.wrap_u64]
                omega
              clear hn0
              go_wp2
              go_ret
              exact ⟨rfl, rfl⟩
            · have hne : ((n : Int) != 0) = true := by rw [bne_iff_ne]; omega
              have hnp : 0 < n := by omega
              clear hn0
              go_wp2
              clear hne
              go_loop [1] (fun q => ∃ k : Nat, 0 < k ∧ k ≤ n ∧ Hid (Nat.gcd m k * 2 ^ s = G) ∧ q = .int .u64 k) (fun q => (intOf q).toNat)
              case atStart => exact ⟨n, hnp, Nat.le_refl _, HG, rfl⟩
              case round =>
                clear HG hnp
                obtain ⟨k, hk0, hk, HG, rfl⟩ := hrel
                have hkm : k ≤ 18446744073709551615 := by omega
                by_cases hev : k % 2 = 0
                · have hb : bits BinOp.and IntKind.u64 (k : Int) 1 = 0 := by rw [and1 k hkm, hev]; rfl
                  have HG2 : Hid (Nat.gcd m (k / 2) * 2 ^ s = G) := by show _ = _; rw [half_right HM.out hev]; exact HG.out
                  have hk2 : 2 ≤ k := by omega
                  clear hev
                  go_wp2
                  go_round
                  case rel => exact ⟨k / 2, by omega, by omega, HG2, by go_num⟩
                  case measure => simp [intOf]; omega
                · have hb : bits BinOp.and IntKind.u64 (k : Int) 1 = 1 := by rw [and1 k hkm, show k % 2 = 1 by omega]; rfl
                  have HK : Hid (k % 2 = 1) := by show _ = _; omega
                  clear hev
                  by_cases hlt : k < m
                  · have HG2 : Hid (Nat.gcd k (m - k) * 2 ^ s = G) := by show _ = _; rw [gcd_sub k m (by omega), Nat.gcd_comm]; exact HG.out
                    go_wp2
                    go_round
                    case rel => exact ⟨k, m - k, hk0, hkm, by omega, HK, HG2, by go_num, by go_num⟩
                    case measure => simp [intOf]; omega
                  · have HG2 : Hid (Nat.gcd m (k - m) * 2 ^ s = G) := by show _ = _; rw [gcd_sub m k (by omega)]; exact HG.out
                    go_wp2
                    go_round
                    case rel => exact ⟨m, k - m, hm0, hm, by omega, HM, HG2, by go_num, by go_num⟩
                    case measure => simp [intOf]; omega

theorem bin_any (u v : Nat) (hu : u ≤ 18446744073709551615) (hv : v ≤ 18446744073709551615) (w : World) :
    Calls Try.prog 7 #[.int .u64 (u : Int), .int .u64 (v : Int)] w fun e w' => e = .returned (.int .u64 ((Nat.gcd u v : Nat) : Int)) ∧ w' = w := by
  by_cases hu0 : u = 0
  · subst hu0
    rw [Nat.gcd_zero_left]
    go_enter Try.func7, Try.ntmps7
    go_wp2
    go_ret
    exact ⟨rfl, rfl⟩
  · by_cases hv0 : v = 0
    · subst hv0
      rw [Nat.gcd_zero_right]
      have e0 : ((u : Int) == 0) = false := beq_eq_false_iff_ne.2 (by omega)
      clear hu0
      go_enter Try.func7, Try.ntmps7
      go_wp2
      go_ret
      exact ⟨rfl, rfl⟩
    · have hle : Nat.gcd u v ≤ u := Nat.gcd_le_left v (by omega)
      exact bin_pos u v (by omega) (by omega) hu hv _ (by omega) (show _ = _ from rfl) w
end Go.Proofs.Qxb6601554a
