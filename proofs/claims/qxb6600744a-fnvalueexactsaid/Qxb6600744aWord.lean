/-
  The walk of wordLen (32).
-/
import Derived.Test.Qxb6600744aFits
import Derived.Test.Qxb6600744aPlainValue
import Derived.Test.Qxb6600744aQuoted
namespace Go.Proofs.Qxb6600744a
open Go.RowKit

/-- How many bytes were read, or -1. -/
def lenO (bs : List Int) : Option (List Int) → Int
  | none => -1
  | some r => (bs.length : Int) - (r.length : Int)

theorem str_at (S : ByteArray) (k : Nat) (h : k < S.size) (w : World) : (Instr.index 9 (.string S) (.int .i64 (k : Int))).run Try.prog w = .ok (.int .u8 ((byt S).getD k 0)) w := by
  rw [byt_at S k h]
  rw [run_index_string (P := Try.prog) w 9 S .i64 (k : Int) Try.underlying9, dif_pos ⟨by omega, by omega⟩]
  simp

/-- What wordLen answers at the word s. -/
def wordV (s bs : List Int) : Int := if starts s bs then (s.length : Int) else -1
theorem wordV_lenO (s bs : List Int) : wordV s bs = lenO bs (needP s bs) := by
  unfold wordV needP
  cases h : starts s bs with
  | true =>
    have := starts_len h
    simp only [if_true, lenO, List.length_drop]
    omega
  | false => rfl

theorem word_part {s bs : List Int} {k : Nat} (hk : k < s.length) (hne : bs.getD k 0 ≠ s.getD k 0) : wordV s bs = -1 := by
  have : starts s bs = false := by
    unfold starts
    apply decide_eq_false
    intro h
    apply hne
    have e : (bs.take s.length).getD k 0 = bs.getD k 0 := by simp [List.getD, hk]
    rw [← e, h]
  simp [wordV, this]

theorem word_all {s bs : List Int} {k : Nat} (hk : ¬ k < s.length) (he : bs.take k = s.take k) (hks : k ≤ s.length) : wordV s bs = (s.length : Int) := by
  have : k = s.length := by omega
  subst this
  have : starts s bs = true := by
    unfold starts
    apply decide_eq_true
    rw [he, List.take_of_length_le (Nat.le_refl _)]
  simp [wordV, this]

theorem word_short {s bs : List Int} (h : bs.length < s.length) : wordV s bs = -1 := by
  have : starts s bs = false := by
    cases hs : starts s bs with
    | false => rfl
    | true => have := starts_len hs; omega
  simp [wordV, this]


set_option maxHeartbeats 800000 in
theorem word_true {bs : List Int} (b off cap : Nat) (w : World) (hl : bs.length ≤ 4194304) (hne : 0 < bs.length) (hc : bs.getD 0 0 = 116) (hcell : ∀ k, k < bs.length → w.cell? ⟨b, off + k, none⟩ = some (.int .u8 (bs.getD k 0))) :
    Calls Try.prog 32 #[.slice (some ⟨b, off, none⟩) bs.length cap] w fun e w' => e = .returned (.int .i64 (wordV [116, 114, 117, 101] bs)) ∧ ∃ n, w' = w.drewN n := by
  have hc0 : w.cell? ⟨b, off, none⟩ = some (.int .u8 (bs.getD 0 0)) := hcell 0 hne
  rw [hc] at hc0
  have HC : Hid (∀ k, k < bs.length → w.cell? ⟨b, off + k, none⟩ = some (.int .u8 (bs.getD k 0))) := hcell
  clear hcell hc
  by_cases hsh : bs.length < 4
  · have HV : Hid (wordV [116, 114, 117, 101] bs = -1) := word_short (by simpa using hsh)
    go_enter Try.func32, Try.ntmps32
    go_wp2
    go_ret
    exact ⟨ret_i64 HV.out.symm, 0, rfl⟩
  · go_enter Try.func32, Try.ntmps32
    go_wp2
    go_loopw [4] (fun i wr => ∃ k n : Nat, k ≤ 4 ∧ i = .int .i64 k ∧ bs.take k = [116, 114, 117, 101].take k ∧ wr = w.drewN n) (fun i _ => 4 - (intOf i).toNat)
    case atStart => exact ⟨0, 0, by omega, rfl, rfl, rfl⟩
    case round =>
      obtain ⟨k, n, hk, rfl, he, rfl⟩ := hrel
      have HE : Hid (bs.take k = [116, 114, 117, 101].take k) := he
      clear he
      by_cases hlt : k < 4
      · have hc1 := HC.out k (by omega)
        have hix := str_at { data := #[116, 114, 117, 101] } k hlt
        have hlt' : (k : Int) < 4 := by omega
        have hkb : k < bs.length := by omega
        have eW : byt { data := #[116, 114, 117, 101] } = [116, 114, 117, 101] := rfl
        rw [eW] at hix
        clear eW
        by_cases hq : bs.getD k 0 = [116, 114, 117, 101].getD k 0
        · have HE2 : Hid (bs.take (k + 1) = [116, 114, 117, 101].take (k + 1)) := by
            show _ = _
            rw [take_snoc hkb, take_snoc (bs := [116, 114, 117, 101]) hlt, HE.out, hq]
          rw [hq] at hc1
          generalize ([116, 114, 117, 101] : List Int).getD k 0 = c at hc1 hix
          clear hq
          go_wp2
          go_quiet (fail)
          go_wp2
          go_roundw
          case rel => exact ⟨k + 1, _, by omega, by go_num, HE2.out, rfl⟩
          case measure => simp [intOf]; omega
        · have HV : Hid (wordV [116, 114, 117, 101] bs = -1) := word_part (k := k) hlt hq
          generalize bs.getD k 0 = c at hc1 hq
          generalize ([116, 114, 117, 101] : List Int).getD k 0 = x at hix hq
          have hne' : (c != x) = true := by rw [bne_iff_ne]; exact hq
          clear hq
          go_wp2
          go_quiet (fail)
          go_wp2
          go_ret
          exact ⟨ret_i64 HV.out.symm, _, by rw [World.drewN_drewN]⟩
      · have HV : Hid (wordV [116, 114, 117, 101] bs = 4) := word_all (s := [116, 114, 117, 101]) (k := k) hlt HE.out hk
        go_wp2
        go_ret
        exact ⟨ret_i64 HV.out.symm, _, rfl⟩

set_option maxHeartbeats 800000 in
theorem word_false {bs : List Int} (b off cap : Nat) (w : World) (hl : bs.length ≤ 4194304) (hne : 0 < bs.length) (hc : bs.getD 0 0 = 102) (hcell : ∀ k, k < bs.length → w.cell? ⟨b, off + k, none⟩ = some (.int .u8 (bs.getD k 0))) :
    Calls Try.prog 32 #[.slice (some ⟨b, off, none⟩) bs.length cap] w fun e w' => e = .returned (.int .i64 (wordV [102, 97, 108, 115, 101] bs)) ∧ ∃ n, w' = w.drewN n := by
  have hc0 : w.cell? ⟨b, off, none⟩ = some (.int .u8 (bs.getD 0 0)) := hcell 0 hne
  rw [hc] at hc0
  have HC : Hid (∀ k, k < bs.length → w.cell? ⟨b, off + k, none⟩ = some (.int .u8 (bs.getD k 0))) := hcell
  have d1 : ((102 : Int) == 116) = false := rfl
  clear hcell hc
  by_cases hsh : bs.length < 5
  · have HV : Hid (wordV [102, 97, 108, 115, 101] bs = -1) := word_short (by simpa using hsh)
    go_enter Try.func32, Try.ntmps32
    go_wp2
    go_ret
    exact ⟨ret_i64 HV.out.symm, 0, rfl⟩
  · go_enter Try.func32, Try.ntmps32
    go_wp2
    go_loopw [4] (fun i wr => ∃ k n : Nat, k ≤ 5 ∧ i = .int .i64 k ∧ bs.take k = [102, 97, 108, 115, 101].take k ∧ wr = w.drewN n) (fun i _ => 5 - (intOf i).toNat)
    case atStart => exact ⟨0, 0, by omega, rfl, rfl, rfl⟩
    case round =>
      obtain ⟨k, n, hk, rfl, he, rfl⟩ := hrel
      have HE : Hid (bs.take k = [102, 97, 108, 115, 101].take k) := he
      clear he
      by_cases hlt : k < 5
      · have hc1 := HC.out k (by omega)
        have hix := str_at { data := #[102, 97, 108, 115, 101] } k hlt
        have hlt' : (k : Int) < 5 := by omega
        have hkb : k < bs.length := by omega
        have eW : byt { data := #[102, 97, 108, 115, 101] } = [102, 97, 108, 115, 101] := rfl
        rw [eW] at hix
        clear eW
        by_cases hq : bs.getD k 0 = [102, 97, 108, 115, 101].getD k 0
        · have HE2 : Hid (bs.take (k + 1) = [102, 97, 108, 115, 101].take (k + 1)) := by
            show _ = _
            rw [take_snoc hkb, take_snoc (bs := [102, 97, 108, 115, 101]) hlt, HE.out, hq]
          rw [hq] at hc1
          generalize ([102, 97, 108, 115, 101] : List Int).getD k 0 = c at hc1 hix
          clear hq
          go_wp2
          go_quiet (fail)
          go_wp2
          go_roundw
          case rel => exact ⟨k + 1, _, by omega, by go_num, HE2.out, rfl⟩
          case measure => simp [intOf]; omega
        · have HV : Hid (wordV [102, 97, 108, 115, 101] bs = -1) := word_part (k := k) hlt hq
          generalize bs.getD k 0 = c at hc1 hq
          generalize ([102, 97, 108, 115, 101] : List Int).getD k 0 = x at hix hq
          have hne' : (c != x) = true := by rw [bne_iff_ne]; exact hq
          clear hq
          go_wp2
          go_quiet (fail)
          go_wp2
          go_ret
          exact ⟨ret_i64 HV.out.symm, _, by rw [World.drewN_drewN]⟩
      · have HV : Hid (wordV [102, 97, 108, 115, 101] bs = 5) := word_all (s := [102, 97, 108, 115, 101]) (k := k) hlt HE.out hk
        go_wp2
        go_ret
        exact ⟨ret_i64 HV.out.symm, _, rfl⟩

set_option maxHeartbeats 800000 in
theorem word_null {bs : List Int} (b off cap : Nat) (w : World) (hl : bs.length ≤ 4194304) (hne : 0 < bs.length) (hc : bs.getD 0 0 = 110) (hcell : ∀ k, k < bs.length → w.cell? ⟨b, off + k, none⟩ = some (.int .u8 (bs.getD k 0))) :
    Calls Try.prog 32 #[.slice (some ⟨b, off, none⟩) bs.length cap] w fun e w' => e = .returned (.int .i64 (wordV [110, 117, 108, 108] bs)) ∧ ∃ n, w' = w.drewN n := by
  have hc0 : w.cell? ⟨b, off, none⟩ = some (.int .u8 (bs.getD 0 0)) := hcell 0 hne
  rw [hc] at hc0
  have HC : Hid (∀ k, k < bs.length → w.cell? ⟨b, off + k, none⟩ = some (.int .u8 (bs.getD k 0))) := hcell
  have d1 : ((110 : Int) == 116) = false := rfl
  have d2 : ((110 : Int) == 102) = false := rfl
  clear hcell hc
  by_cases hsh : bs.length < 4
  · have HV : Hid (wordV [110, 117, 108, 108] bs = -1) := word_short (by simpa using hsh)
    go_enter Try.func32, Try.ntmps32
    go_wp2
    go_ret
    exact ⟨ret_i64 HV.out.symm, 0, rfl⟩
  · go_enter Try.func32, Try.ntmps32
    go_wp2
    go_loopw [4] (fun i wr => ∃ k n : Nat, k ≤ 4 ∧ i = .int .i64 k ∧ bs.take k = [110, 117, 108, 108].take k ∧ wr = w.drewN n) (fun i _ => 4 - (intOf i).toNat)
    case atStart => exact ⟨0, 0, by omega, rfl, rfl, rfl⟩
    case round =>
      obtain ⟨k, n, hk, rfl, he, rfl⟩ := hrel
      have HE : Hid (bs.take k = [110, 117, 108, 108].take k) := he
      clear he
      by_cases hlt : k < 4
      · have hc1 := HC.out k (by omega)
        have hix := str_at { data := #[110, 117, 108, 108] } k hlt
        have hlt' : (k : Int) < 4 := by omega
        have hkb : k < bs.length := by omega
        have eW : byt { data := #[110, 117, 108, 108] } = [110, 117, 108, 108] := rfl
        rw [eW] at hix
        clear eW
        by_cases hq : bs.getD k 0 = [110, 117, 108, 108].getD k 0
        · have HE2 : Hid (bs.take (k + 1) = [110, 117, 108, 108].take (k + 1)) := by
            show _ = _
            rw [take_snoc hkb, take_snoc (bs := [110, 117, 108, 108]) hlt, HE.out, hq]
          rw [hq] at hc1
          generalize ([110, 117, 108, 108] : List Int).getD k 0 = c at hc1 hix
          clear hq
          go_wp2
          go_quiet (fail)
          go_wp2
          go_roundw
          case rel => exact ⟨k + 1, _, by omega, by go_num, HE2.out, rfl⟩
          case measure => simp [intOf]; omega
        · have HV : Hid (wordV [110, 117, 108, 108] bs = -1) := word_part (k := k) hlt hq
          generalize bs.getD k 0 = c at hc1 hq
          generalize ([110, 117, 108, 108] : List Int).getD k 0 = x at hix hq
          have hne' : (c != x) = true := by rw [bne_iff_ne]; exact hq
          clear hq
          go_wp2
          go_quiet (fail)
          go_wp2
          go_ret
          exact ⟨ret_i64 HV.out.symm, _, by rw [World.drewN_drewN]⟩
      · have HV : Hid (wordV [110, 117, 108, 108] bs = 4) := word_all (s := [110, 117, 108, 108]) (k := k) hlt HE.out hk
        go_wp2
        go_ret
        exact ⟨ret_i64 HV.out.symm, _, rfl⟩

theorem word_any {bs : List Int} {B : Nat} {a : Option Addr} (cap : Nat) {w : World} (c : Int) (hl : bs.length ≤ 4194304) (hh : Holds B w a bs) (hne : 0 < bs.length) (hc : bs.getD 0 0 = c) (h3 : c = 116 ∨ c = 102 ∨ c = 110) :
    Calls Try.prog 32 #[.slice a bs.length cap] w fun e w' => e = .returned (.int .i64 (lenO bs (leaf c bs))) ∧ ∃ n, w' = w.drewN n := by
  rcases hh with rfl | ⟨b, off, rfl, _, hcell⟩
  · simp at hne
  rcases h3 with rfl | rfl | rfl
  · have e : leaf 116 bs = needP [116, 114, 117, 101] bs := rfl
    rw [e, ← wordV_lenO]
    exact word_true b off cap w hl hne hc hcell
  · have e : leaf 102 bs = needP [102, 97, 108, 115, 101] bs := rfl
    rw [e, ← wordV_lenO]
    exact word_false b off cap w hl hne hc hcell
  · have e : leaf 110 bs = needP [110, 117, 108, 108] bs := rfl
    rw [e, ← wordV_lenO]
    exact word_null b off cap w hl hne hc hcell
end Go.Proofs.Qxb6600744a
