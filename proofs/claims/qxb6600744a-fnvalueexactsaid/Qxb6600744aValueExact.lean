/-
  modelValue (25), whole, and the walk of FnValueExact (7).
-/
import Derived.Test.Qxb6600744aModel
namespace Go.Proofs.Qxb6600744a
open Go.RowKit

theorem mrun_empty (L : Int) (n : Nat) : mrun L n 0 [] [] = none := mrun_rej (by simp [mstep]) n

set_option maxHeartbeats 2000000 in
set_option maxRecDepth 1000000 in
theorem model_empty (a : Option Addr) (cap : Nat) (w : World) (d L : Int) (hLv : Hid ((tst d = true → 32 - d = L) ∧ (tst d = false → L = -1))) :
    Calls Try.prog 25 #[.slice a 0 cap, .int .i64 d] w fun e w' => e = .returned (.tuple #[.bool false, .int .i64 0]) ∧ Below w.heap.size w w' := by
  go_enter Try.func25, Try.ntmps25
  go_upto_region 2 with fail
  go_cut [21] (fun v w' => v = .bool (tst d) ∧ w = w')
  case first =>
    by_cases h1 : d ≤ 32
    · by_cases h2 : -2097120 ≤ d
      · have HT : Hid (tst d = true) := decide_eq_true ⟨h1, h2⟩
        go_wp2_with fail
        go_meet
        case rel => exact ⟨by rw [HT.out], rfl⟩
      · have HT : Hid (tst d = false) := decide_eq_false (by omega)
        go_wp2_with fail
        go_meet
        case rel => exact ⟨by rw [HT.out], rfl⟩
    · have HT : Hid (tst d = false) := decide_eq_false (by omega)
      go_wp2_with fail
      go_meet
      case rel => exact ⟨by rw [HT.out], rfl⟩
  case rest =>
  obtain ⟨rfl, rfl⟩ := hcut
  go_upto_if 21 with fail
  go_cut [6] (fun v w' => v = .int .i64 L ∧ w = w')
  case first =>
    cases ht : tst d with
    | true =>
      have e := hLv.out.1 ht
      have h1 := of_decide_eq_true ht
      clear ht
      obtain ⟨h1, h2⟩ := h1
      go_wp2_with fail
      go_meet
      case rel => exact ⟨rfl, rfl⟩
    | false =>
      have e := hLv.out.2 ht
      have HE : Hid (L = -1) := e
      clear ht e
      go_wp2_with fail
      go_meet
      case rel => exact ⟨by rw [HE.out], rfl⟩
  case rest =>
  obtain ⟨rfl, rfl⟩ := hcut
  go_wp2_with fail
  clear hLv
  refine wp_loop_rounds 1 ?_
  rw [rounds_succ]
  by_cases h0 : (0 : Int) = L
  · have h0' : ((0 : Int) == L) = true := beq_iff_eq.2 h0
    clear h0
    go_wp2
    go_ret2
    exact ⟨rfl, Below.refl _ _⟩
  · have h0' : ((0 : Int) == L) = false := beq_eq_false_iff_ne.2 h0
    clear h0
    go_wp2
    go_ret2
    exact ⟨rfl, Below.refl _ _⟩

theorem model_any {bs : List Int} {a : Option Addr} {cap : Nat} {w : World} (d : Int) (hl : bs.length ≤ 1048576) (hcap : bs.length ≤ cap) (hh : Holds w.heap.size w a bs) (R : Option (List Int)) (hR : R = mrun (limOf d) (bs.length + 2) 0 [] bs) :
    Calls Try.prog 25 #[.slice a bs.length cap, .int .i64 d] w fun e w' => e = .returned (.tuple #[.bool R.isSome, .int .i64 (usedO bs R)]) ∧ Below w.heap.size w w' := by
  have hLv : Hid ((tst d = true → 32 - d = limOf d) ∧ (tst d = false → limOf d = -1)) := tst_lim rfl
  cases bs with
  | nil =>
    have : R = none := by rw [hR]; exact mrun_empty _ _
    subst this
    exact model_empty a cap w d (limOf d) hLv
  | cons c r =>
    rcases hh with h | ⟨b, off, rfl, hbb, hcell⟩
    · cases h
    · exact model_full b off cap w d (limOf d) hLv hl (by simp) hcap hbb hcell R hR

set_option maxHeartbeats 2000000 in
theorem valueExact_walk {a : Option Addr} {cap : Nat} {bs : List Int} {w : World} (ok : Bool) (d : Int) (hd0 : -9223372036854775808 ≤ d) (hd1 : d ≤ 9223372036854775807) (hbt : Bts bs) (hh : Holds w.heap.size w a bs) (hn : a = none → bs = [] ∧ cap = 0) :
    Calls Try.prog 7 #[.slice a bs.length cap, .bool ok, .int .i64 d] w fun e w' => e = .returned (.bool true) ∧ Below w.heap.size w w' := by
  by_cases hl : bs.length ≤ 1048576
  · have HCL : Hid (Calls Try.prog 12 #[.slice a bs.length cap] w _) := clone_any hl hh hn
    have HD : Hid (inInt d) := ⟨hd0, hd1⟩
    clear hh hn
    go_enter Try.func7, Try.ntmps7
    go_wp2_with fail
    refine same_mono (zz23_y _ _ _ _ _ _ hl) ?_
    go_wp2_with fail
    refine HCL.out.mono ?_
    rintro e w1 ⟨a1, cap1, rfl, hh1, hc1, hm1, hb1⟩
    clear HCL
    cases ok with
    | false =>
      have HC : Hid (Calls Try.prog 24 #[.slice a1 bs.length cap1, .bool false, .int .i64 d] w1 _) := zzvalue_dead d hh1 hc1 (by omega) hbt
      go_wp2_with fail
      refine HC.out.mono ?_
      rintro e w2 ⟨rfl, hb2⟩
      clear HC
      go_wp2_with fail
      go_ret
      exact ⟨rfl, hb1.trans (hb2.mono hb1.size)⟩
    | true =>
      obtain ⟨F, hF⟩ : ∃ F, 2 * bs.length + 1 ≤ F := ⟨_, Nat.le_refl _⟩
      have hme := model_eq hd0 hd1 hl hF
      cases hr : rd F 0 d bs with
      | none =>
        rw [hr] at hme
        have HC : Hid (Calls Try.prog 24 #[.slice a1 bs.length cap1, .bool true, .int .i64 d] w1 _) := zzvalue_none d F hF hr HD.out hh1 hc1 (by omega) hbt
        have HM := fun (w2 : World) (hb2 : Below w1.heap.size w1 w2) => model_any (w := w2) (a := a1) (cap := cap1) d hl hc1 ((hh1.below hb2).mono hb2.size) none hme.symm
        have HM2 : Hid (∀ (w2 : World), Below w1.heap.size w1 w2 → _) := HM
        clear HM hr hme hF
        go_wp2_with fail
        refine HC.out.mono ?_
        rintro e w2 ⟨n, rfl, hb2⟩
        clear HC
        go_wp2_with fail
        refine (HM2.out w2 hb2).mono ?_
        rintro e w3 ⟨rfl, hb3⟩
        have e1 : (none : Option (List Int)).isSome = false := rfl
        have e2 : usedO bs none = 0 := rfl
        rw [e1, e2]
        clear e1 e2
        go_wp2_with fail
        go_ret
        exact ⟨rfl, chain (hb1.trans (hb2.mono hb1.size)) hb3 (Nat.le_trans hb1.size hb2.size)⟩
      | some r =>
        rw [hr] at hme
        have hrl := rd_le_len hr
        have HC : Hid (Calls Try.prog 24 #[.slice a1 bs.length cap1, .bool true, .int .i64 d] w1 _) := zzvalue_some d F hF hr HD.out hh1 hc1 (by omega) hbt
        have HM := fun (w2 : World) (hb2 : Below w1.heap.size w1 w2) => model_any (w := w2) (a := a1) (cap := cap1) d hl hc1 ((hh1.below hb2).mono hb2.size) (some r) hme.symm
        have HM2 : Hid (∀ (w2 : World), Below w1.heap.size w1 w2 → _) := HM
        clear HM hr hme hF
        go_wp2_with fail
        refine HC.out.mono ?_
        rintro e w2 ⟨rfl, hb2⟩
        clear HC
        go_wp2_with fail
        refine (HM2.out w2 hb2).mono ?_
        rintro e w3 ⟨rfl, hb3⟩
        have e1 : (some r).isSome = true := rfl
        obtain ⟨u, hu1, hu2⟩ : ∃ u : Int, usedO bs (some r) = u ∧ (bs.length : Int) - u = (r.length : Int) := ⟨_, rfl, by simp only [usedO]; omega⟩
        have hu3 : 0 ≤ u := by omega
        have hu4 : u ≤ 1048576 := by omega
        rw [e1, hu1]
        clear e1 hu1
        go_wp2_with fail
        go_ret
        exact ⟨rfl, chain (hb1.trans (hb2.mono hb1.size)) hb3 (Nat.le_trans hb1.size hb2.size)⟩
  · go_enter Try.func7, Try.ntmps7
    go_wp2_with fail
    refine same_mono (zz23_n _ _ _ _ _ _ (by omega)) ?_
    go_wp2_with fail
    go_ret
    exact ⟨rfl, Below.refl _ _⟩
end Go.Proofs.Qxb6600744a
