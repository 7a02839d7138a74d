/-
  The walk of fitsUint64 (15).
-/
import Derived.Test.Qxb6600744aBuf2
import Derived.Test.Qxb6600744aPlainFits
namespace Go.Proofs.Qxb6600744a
open Go.RowKit

def mxS : ByteArray := { data := #[49, 56, 52, 52, 54, 55, 52, 52, 48, 55, 51, 55, 48, 57, 53, 53, 49, 54, 49, 53] }
theorem mx_at (k : Nat) (h : k < 20) (w : World) : (Instr.index 9 (.string mxS) (.int .i64 (k : Int))).run Try.prog w = .ok (.int .u8 (mx.getD k 0)) w := by
  have hs : k < mxS.size := h
  have e : mx.getD k 0 = (mxS[k].toNat : Int) := byt_at mxS k hs
  rw [e]
  rw [run_index_string (P := Try.prog) w 9 mxS .i64 (k : Int) Try.underlying9, dif_pos ⟨by omega, by omega⟩]
  simp

theorem fits_other (a : Option Addr) (n cap : Nat) (w : World) (h : ((n : Int) != 20) = true) :
    Calls Try.prog 15 #[.slice a n cap] w fun e w' => e = .returned (.bool (decide ((n : Int) < 20))) ∧ w' = w := by
  go_enter Try.func15, Try.ntmps15
  go_wp2
  go_ret
  exact ⟨rfl, rfl⟩

set_option maxHeartbeats 800000 in
theorem fits_same_len {l : List Int} (hd : Digits l) (hl : l.length = 20) (b off cap : Nat) (w : World) (hcell : ∀ k, k < l.length → w.cell? ⟨b, off + k, none⟩ = some (.int .u8 (l.getD k 0))) :
    Calls Try.prog 15 #[.slice (some ⟨b, off, none⟩) 20 cap] w fun e w' => e = .returned (.bool (decide (val l ≤ 18446744073709551615))) ∧ ∃ n, w' = w.drewN n := by
  have HL : Hid (l.length = 20) := hl
  rw [hl] at hcell
  clear hl
  go_enter Try.func15, Try.ntmps15
  go_wp2
  go_loopw [3] (fun i wr => ∃ k n : Nat, k ≤ 20 ∧ i = .int .i64 k ∧ l.take k = mx.take k ∧ wr = w.drewN n) (fun i _ => 20 - (intOf i).toNat)
  case atStart => exact ⟨0, 0, by omega, rfl, rfl, rfl⟩
  case round =>
    obtain ⟨k, n, hk, rfl, he, rfl⟩ := hrel
    have HE : Hid (l.take k = mx.take k) := he
    clear he
    by_cases hlt : k < 20
    · have hc1 := hcell k hlt
      have hix := mx_at k hlt
      unfold mxS at hix
      have hlt' : (k : Int) < 20 := by omega
      by_cases hne : l.getD k 0 = mx.getD k 0
      · have HE2 : Hid (l.take (k + 1) = mx.take (k + 1)) := by
          show _ = _
          rw [take_snoc (by rw [HL.out]; exact hlt), take_snoc (by rw [mx_len]; exact hlt), HE.out, hne]
        rw [hne] at hc1
        generalize mx.getD k 0 = c at hc1 hix
        clear hcell hne
        go_wp2
        go_quiet (fail)
        go_wp2
        go_roundw
        case rel => exact ⟨k + 1, _, by omega, by go_num, HE2.out, rfl⟩
        case measure => simp [intOf]; omega
      · have hfin := fits_part hd HL.out hlt HE.out hne
        have HF : Hid (decide (l.getD k 0 < mx.getD k 0) = decide (val l ≤ 18446744073709551615)) := hfin
        clear hfin hcell
        generalize l.getD k 0 = c at hc1 hne HF
        generalize mx.getD k 0 = d at hix hne HF
        have hne' : (c != d) = true := by rw [bne_iff_ne]; exact hne
        clear hne
        go_wp2
        go_quiet (fail)
        go_wp2
        go_quiet (fail)
        go_wp2
        go_ret
        exact ⟨ret_bool HF.out, _, by rw [World.drewN_drewN, World.drewN_drewN]⟩
    · have hk20 : k = 20 := by omega
      have HF : Hid (val l ≤ 18446744073709551615) := fits_same HL.out (by rw [← hk20]; exact HE.out)
      clear hk20
      go_wp2
      go_ret
      exact ⟨ret_bool (decide_eq_true HF.out).symm, _, rfl⟩

theorem fits_any {l : List Int} (hc : Canon l) {B : Nat} {a : Option Addr} (cap : Nat) {w : World} (hh : Holds B w a l) :
    Calls Try.prog 15 #[.slice a l.length cap] w fun e w' => e = .returned (.bool (decide (val l ≤ 18446744073709551615))) ∧ ∃ n, w' = w.drewN n := by
  by_cases h20 : l.length = 20
  · rcases hh with rfl | ⟨b, off, rfl, _, hcell⟩
    · simp at h20
    · have := fits_same_len hc.dig h20 b off cap w hcell
      rw [h20]
      exact this
  · refine (fits_other a l.length cap w (by rw [bne_iff_ne]; omega)).mono ?_
    rintro e w' ⟨rfl, rfl⟩
    refine ⟨ret_bool ?_, 0, rfl⟩
    rcases Nat.lt_or_gt_of_ne h20 with h | h
    · rw [decide_eq_true (fits_short hc.dig h), decide_eq_true (by omega)]
    · have hz : l.getD 0 0 ≠ 48 := by
        rcases hc.head with h1 | h1
        · omega
        · exact h1
      rw [decide_eq_false (fits_long hc.dig h hz), decide_eq_false (by omega)]
end Go.Proofs.Qxb6600744a
