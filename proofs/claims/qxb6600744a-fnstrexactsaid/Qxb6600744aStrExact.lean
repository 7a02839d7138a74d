/-
  The walk of FnStrExact (5).
-/
import Derived.Test.Qxb6600744aQuoted
namespace Go.Proofs.Qxb6600744a
open Go.RowKit

theorem run_mid (a : Option Addr) (len cap l h : Nat) (h1 : l ≤ h) (h2 : h ≤ cap) (w : World) :
    (Instr.slice 22 (.slice a len cap) (some (.int .i64 (l : Int))) (some (.int .i64 (h : Int))) none).run Try.prog w = .ok (.slice (adv a cap l) (h - l) (cap - l)) w := by
  have ht' : Try.prog.underlying 22 = some (.slice (Try.prog.elem 22)) := by simp [Program.elem, Try.underlying22]
  have he : Try.prog.elem 22 = 5 := by simp [Program.elem, Try.underlying22]
  rw [run_slice_lh w 22 _ _ _ ht' .i64 .i64 _ _ (by omega) (by omega) (by omega), he, sz5]
  simp [Result.andThen, sliced, adv]

theorem Holds.pre {B : Nat} {w : World} {a : Option Addr} {bs : List Int} (h : Holds B w a bs) (n : Nat) : Holds B w a (bs.take n) := by
  rcases h with rfl | ⟨b, off, rfl, hb, hk⟩
  · exact .inl (by simp)
  · refine .inr ⟨b, off, rfl, hb, fun k h => ?_⟩
    rw [List.length_take] at h
    rw [hk k (by omega)]
    simp [List.getD, show k < n by omega]

/-- What the law compares, where the text is read. -/
theorem strExact_yes {bs : List Int} (h : strOk true bs = true) :
    ∃ n : Nat, n + 2 ≤ bs.length ∧ qlen bs = (n : Int) + 2 ∧ strS true bs = (bs.drop 1).take n ∧ (strR true bs).length = bs.length - (n + 2) := by
  refine ⟨(sf (bs.drop 1)).length, ?_, by simp [qlen, h], ?_, ?_⟩
  · have hc : closes (bs.drop 1) = true := by
      unfold strOk at h
      cases hq : closes (bs.drop 1) with
      | true => rfl
      | false => rw [hq] at h; simp at h
    unfold closes at hc
    have hq := of_decide_eq_true hc
    rcases Nat.lt_or_ge (sf (bs.drop 1)).length (bs.drop 1).length with h2 | h2
    · rw [List.length_drop] at h2
      omega
    · rw [List.getD, List.getElem?_eq_none h2] at hq
      simp at hq
  · simp only [strS, h, if_true]
    exact tw_take safe _
  · simp only [strR, h, if_true, List.length_drop]
    omega

theorem strExact_no {bs : List Int} (ok : Bool) (h : strOk ok bs = false) : strS ok bs = [] ∧ (strR ok bs) = litR ok [34] bs := by
  simp [strS, strR, h]

set_option maxHeartbeats 1600000 in
theorem strExact_walk {a : Option Addr} {cap : Nat} {bs : List Int} {w : World} (ok : Bool) (hbt : Bts bs) (hh : Holds w.heap.size w a bs) (hn : a = none → bs = [] ∧ cap = 0) :
    Calls Try.prog 5 #[.slice a bs.length cap, .bool ok] w fun e w' => e = .returned (.bool true) ∧ Below w.heap.size w w' := by
  by_cases hl : bs.length ≤ 1048576
  · have HCL : Hid (Calls Try.prog 12 #[.slice a bs.length cap] w _) := clone_any hl hh hn
    clear hh hn
    go_enter Try.func5, Try.ntmps5
    go_wp2_with fail
    refine same_mono (zz18_y _ _ _ _ _ hl) ?_
    go_wp2_with fail
    refine HCL.out.mono ?_
    rintro e w1 ⟨a1, cap1, rfl, hh1, hc1, hm1, hb1⟩
    clear HCL
    have hcall := zzstr_any ok hh1 hc1 (by omega) hbt
    go_wp2_with fail
    refine hcall.mono ?_
    rintro e w2 ⟨rfl, hb2⟩
    clear hcall
    have hh2 := hh1.below hb2
    have HB : Hid (Below w.heap.size w w2) := hb1.trans (hb2.mono hb1.size)
    clear hh1 hb1 hb2
    go_wp2_with fail
    refine same_mono (quoted_any cap1 (by omega) hh2) ?_
    have he0 : strOfNums [] = { data := #[] } := rfl
    cases ok with
    | false =>
      have e2 : strOk false bs = false := by simp [strOk, litB]
      obtain ⟨e1, e3⟩ := strExact_no false e2
      have e4 : litR false [34] bs = bs := by simp [litR, litB]
      rw [e2, e1, e3, e4, he0]
      clear e1 e2 e3 e4 he0
      go_wp2
      go_ret
      exact ⟨rfl, HB.out⟩
    | true =>
      cases e2 : strOk true bs with
      | true =>
        obtain ⟨n, hn2, e5, e1, e3⟩ := strExact_yes e2
        have hsl := run_mid a1 bs.length cap1 1 (n + 1) (by omega) (by omega)
        have hcv := run_str ((hh2.drop 1 hc1).pre n) (cap1 - 1)
        have hlk : ((bs.drop 1).take n).length = n := by rw [List.length_take, List.length_drop]; omega
        rw [hlk] at hcv
        rw [show n + 1 - 1 = n by omega, show ((1 : Nat) : Int) = 1 by rfl, show ((n + 1 : Nat) : Int) = (n : Int) + 1 by omega] at hsl
        have hsl2 := hsl
        rw [show (n : Int) + 1 = (n : Int) + 2 - 1 by omega] at hsl2
        rw [e1, e3, e5]
        have e6 : ((bs.length - (n + 2) : Nat) : Int) = (bs.length : Int) - ((n : Int) + 2) := by omega
        rw [e6]
        clear e1 e3 e5 hlk e6 he0
        generalize adv a1 cap1 1 = A at *
        go_wp2
        go_ret
        exact ⟨rfl, HB.out⟩
      | false =>
        obtain ⟨e1, e3⟩ := strExact_no true e2
        have e5 : qlen bs = -1 := by simp [qlen, e2]
        rw [e1, e3, e5, he0]
        clear e1 e2 e3 e5 he0
        by_cases hne : 0 < bs.length
        · rcases hh2 with rfl | ⟨b, off, rfl, hbb, hcell⟩
          · simp at hne
          have hc0 : w2.cell? ⟨b, off, none⟩ = some (.int .u8 (bs.getD 0 0)) := hcell 0 hne
          clear hcell
          by_cases h34 : bs.getD 0 0 = 34
          · have e4 : (((litR true [34] bs).length : Nat) : Int) = (bs.length : Int) - 1 := by
              have : litR true [34] bs = bs.drop 1 := by
                cases bs with
                | nil => simp at hne
                | cons c r =>
                  have : c = 34 := by simpa using h34
                  simp [litR, litB, starts, this]
              rw [this, List.length_drop]
              omega
            rw [e4]
            rw [h34] at hc0
            clear e4 h34
            go_wp2
            go_ret
            exact ⟨rfl, HB.out⟩
          · have e4 : litR true [34] bs = bs := by
              cases bs with
              | nil => simp at hne
              | cons c r =>
                have : ¬ c = 34 := by simpa using h34
                simp [litR, litB, starts, this]
            rw [e4]
            generalize bs.getD 0 0 = c at hc0 h34
            have h34' : (c == 34) = false := beq_eq_false_iff_ne.2 h34
            clear e4 h34
            go_wp2
            go_ret
            exact ⟨rfl, HB.out⟩
        · have e4 : litR true [34] bs = bs := by
            obtain rfl : bs = [] := List.length_eq_zero_iff.1 (by omega)
            rfl
          rw [e4]
          clear e4
          go_wp2
          go_ret
          exact ⟨rfl, HB.out⟩
  · go_enter Try.func5, Try.ntmps5
    go_wp2_with fail
    refine same_mono (zz18_n _ _ _ _ _ (by omega)) ?_
    go_wp2
    go_ret
    exact ⟨rfl, Below.refl _ _⟩
end Go.Proofs.Qxb6600744a
