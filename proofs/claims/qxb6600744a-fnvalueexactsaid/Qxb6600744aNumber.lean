/-
  The walk of numberLen (33).
-/
import Derived.Test.Qxb6600744aWord
namespace Go.Proofs.Qxb6600744a
open Go.RowKit

/-- What numberLen answers, m bytes ahead of r read already. -/
def nv (m : Nat) (r : List Int) : Int := lenO (List.replicate m 0 ++ r) (digR r)

theorem nv_none {m : Nat} {r : List Int} (h : (dg r).length = 0 ∨ (1 < (dg r).length ∧ r.getD 0 0 = 48)) : nv m r = -1 := by
  unfold nv digR
  rw [if_pos h]
  rfl

theorem nv_some {m : Nat} {r : List Int} (h : ¬ ((dg r).length = 0 ∨ (1 < (dg r).length ∧ r.getD 0 0 = 48))) : nv m r = ((dg r).length : Int) + m := by
  unfold nv digR
  rw [if_neg h]
  have := dg_le r
  simp only [lenO, List.length_append, List.length_replicate, List.length_drop]
  omega

/-- The first byte is no digit. -/
theorem dg_no {r : List Int} (h : isDig (r.getD 0 0) = false) (hne : 0 < r.length) : (dg r).length = 0 := (tw_end isDig (Nat.zero_le _) hne h).symm
theorem dg_one {r : List Int} (h : isDig (r.getD 0 0) = true) (hne : 0 < r.length) : 1 ≤ (dg r).length := tw_next isDig (Nat.zero_le _) hne h

theorem num0_empty (b off cap : Nat) (w : World) :
    Calls Try.prog 33 #[.slice (some ⟨b, off, none⟩) 0 cap] w fun e w' => e = .returned (.int .i64 (-1)) ∧ w' = w := by
  go_enter Try.func33, Try.ntmps33
  go_wp2
  go_ret
  exact ⟨rfl, rfl⟩

set_option maxHeartbeats 1600000 in
theorem num0_full {r : List Int} (b off cap : Nat) (w : World) (hl : r.length ≤ 4194304) (hne : 0 < r.length) (c : Int) (hcv : Hid (c = r.getD 0 0)) (h45 : c ≠ 45) (hcell : Hid (∀ k, k < r.length → w.cell? ⟨b, off + k, none⟩ = some (.int .u8 (r.getD k 0)))) :
    Calls Try.prog 33 #[.slice (some ⟨b, off, none⟩) r.length cap] w fun e w' => e = .returned (.int .i64 (nv 0 r)) ∧ w' = w := by
  have hc0 : w.cell? ⟨b, off, none⟩ = some (.int .u8 c) := by rw [hcv.out]; exact hcell.out 0 hne
  have f45 : (c == 45) = false := beq_eq_false_iff_ne.2 h45
  have hdl := dg_le r
  have hr0 : r ≠ [] := by intro h; simp [h] at hne
  by_cases h48 : c = 48
  · have hdig : isDig (r.getD 0 0) = true := by rw [← hcv.out, h48]; decide
    have h1 := dg_one hdig hne
    by_cases h2 : 1 < r.length
    · have hc1 : w.cell? ⟨b, off + 1, none⟩ = some (.int .u8 (r.getD 1 0)) := hcell.out 1 h2
      have hst := tw_step isDig (bs := r) (k := 1) h1 h2
      cases hd : isDig (r.getD 1 0) with
      | true =>
        have HV : Hid (nv 0 r = -1) := by
          rw [hd] at hst
          have := of_decide_eq_true hst.symm
          exact nv_none (.inr ⟨this, by rw [← hcv.out, h48]⟩)
        generalize r.getD 1 0 = c1 at hc1 hd
        subst h48
        clear hst hdig
        go_enter Try.func33, Try.ntmps33
        go_wp2_with fail
        refine same_mono (isDigit_any _ _) ?_
        rw [hd]
        go_wp2
        go_ret
        exact ⟨ret_i64 HV.out.symm, rfl⟩
      | false =>
        have HV : Hid (nv 0 r = 1 + 0) := by
          show _ = _
          rw [hd] at hst
          have h3 : ¬ 1 < (dg r).length := of_decide_eq_false hst.symm
          have e : (dg r).length = 1 := by omega
          have := nv_some (m := 0) (r := r) (by omega)
          rw [this, e]
          rfl
        generalize r.getD 1 0 = c1 at hc1 hd
        subst h48
        clear hst hdig
        go_enter Try.func33, Try.ntmps33
        go_wp2_with fail
        refine same_mono (isDigit_any _ _) ?_
        rw [hd]
        go_wp2
        go_ret
        exact ⟨ret_i64 HV.out.symm, rfl⟩
    · have HV : Hid (nv 0 r = 1 + 0) := by
        show _ = _
        have e : (dg r).length = 1 := by omega
        have := nv_some (m := 0) (r := r) (by omega)
        rw [this, e]
        rfl
      subst h48
      clear hdig
      go_enter Try.func33, Try.ntmps33
      go_wp2
      go_ret
      exact ⟨ret_i64 HV.out.symm, rfl⟩
  · have f48 : (c == 48) = false := beq_eq_false_iff_ne.2 h48
    by_cases hd : 49 ≤ c ∧ c ≤ 57
    · have hdig : isDig (r.getD 0 0) = true := by rw [← hcv.out]; unfold isDig; exact decide_eq_true (by omega)
      have HV : Hid (nv 0 r = ((dg r).length : Int) + 0) := by
        have := dg_one hdig hne
        exact nv_some (m := 0) (r := r) (by rw [← hcv.out]; omega)
      obtain ⟨hd1, hd2⟩ := hd
      clear hdig h48
      go_enter Try.func33, Try.ntmps33
      go_wp2
      go_loop [3] (fun i => ∃ k : Nat, k ≤ (dg r).length ∧ i = .int .i64 (k : Int)) (fun i => r.length + 0 - (intOf i).toNat)
      case atStart => exact ⟨0, Nat.zero_le _, rfl⟩
      case round =>
        obtain ⟨k, hk, rfl⟩ := hrel
        by_cases hlt : k < r.length
        · have hc1 := hcell.out k hlt
          cases hd : isDig (r.getD k 0) with
          | true =>
            have hk1 := tw_next isDig hk hlt hd
            generalize r.getD k 0 = x at hc1 hd
            clear hc0
            go_wp2_with fail
            refine same_mono (isDigit_any _ _) ?_
            rw [hd]
            go_wp2
            go_round
            case rel => exact ⟨k + 1, hk1, by go_num⟩
            case measure => simp [intOf]; omega
          | false =>
            have hend := tw_end isDig hk hlt hd
            have HK : Hid (nv 0 r = (k : Int) + 0) := by show _ = _; rw [HV.out, hend]; rfl
            generalize r.getD k 0 = x at hc1 hd
            clear hend hc0
            go_wp2_with fail
            refine same_mono (isDigit_any _ _) ?_
            rw [hd]
            go_wp2
            go_ret
            exact ⟨ret_i64 (by rw [HK.out]; simp), rfl⟩
        · have hend := tw_over isDig hk hlt
          have HK : Hid (nv 0 r = (k : Int) + 0) := by show _ = _; rw [HV.out, hend]; rfl
          clear hend hc0
          go_wp2
          go_ret
          exact ⟨ret_i64 (by rw [HK.out]; simp), rfl⟩
    · have hdig : isDig (r.getD 0 0) = false := by rw [← hcv.out]; unfold isDig; exact decide_eq_false (by omega)
      have HV : Hid (nv 0 r = -1) := nv_none (.inl (dg_no hdig hne))
      rcases (show c < 49 ∨ (¬ c < 49 ∧ 57 < c) by omega) with h1 | ⟨h1, h2⟩
      all_goals
        clear hdig hd h48
        go_enter Try.func33, Try.ntmps33
        go_wp2
        go_ret
        exact ⟨ret_i64 HV.out.symm, rfl⟩

theorem num1_empty (b off cap : Nat) (w : World) (hc45 : w.cell? ⟨b, off, none⟩ = some (.int .u8 45)) :
    Calls Try.prog 33 #[.slice (some ⟨b, off, none⟩) 1 cap] w fun e w' => e = .returned (.int .i64 (-1)) ∧ w' = w := by
  go_enter Try.func33, Try.ntmps33
  go_wp2
  go_ret
  exact ⟨rfl, rfl⟩

set_option maxHeartbeats 1600000 in
theorem num1_full {r : List Int} (b off cap : Nat) (w : World) (hl : r.length ≤ 4194304) (hne : 0 < r.length) (c : Int) (hcv : Hid (c = r.getD 0 0)) (hc45 : w.cell? ⟨b, off, none⟩ = some (.int .u8 45)) (hcell : Hid (∀ k, k < r.length → w.cell? ⟨b, off + (k + 1), none⟩ = some (.int .u8 (r.getD k 0)))) :
    Calls Try.prog 33 #[.slice (some ⟨b, off, none⟩) (r.length + 1) cap] w fun e w' => e = .returned (.int .i64 (nv 1 r)) ∧ w' = w := by
  have hc0 : w.cell? ⟨b, off + 1, none⟩ = some (.int .u8 c) := by rw [hcv.out]; exact hcell.out 0 hne
  have hdl := dg_le r
  have hr0 : r ≠ [] := by intro h; simp [h] at hne
  by_cases h48 : c = 48
  · have hdig : isDig (r.getD 0 0) = true := by rw [← hcv.out, h48]; decide
    have h1 := dg_one hdig hne
    by_cases h2 : 1 < r.length
    · have hc1 : w.cell? ⟨b, off + 2, none⟩ = some (.int .u8 (r.getD 1 0)) := hcell.out 1 h2
      have hst := tw_step isDig (bs := r) (k := 1) h1 h2
      cases hd : isDig (r.getD 1 0) with
      | true =>
        have HV : Hid (nv 1 r = -1) := by
          rw [hd] at hst
          have := of_decide_eq_true hst.symm
          exact nv_none (.inr ⟨this, by rw [← hcv.out, h48]⟩)
        generalize r.getD 1 0 = c1 at hc1 hd
        subst h48
        clear hst hdig
        go_enter Try.func33, Try.ntmps33
        go_wp2_with fail
        refine same_mono (isDigit_any _ _) ?_
        rw [hd]
        go_wp2
        go_ret
        exact ⟨ret_i64 HV.out.symm, rfl⟩
      | false =>
        have HV : Hid (nv 1 r = 1 + 1) := by
          show _ = _
          rw [hd] at hst
          have h3 : ¬ 1 < (dg r).length := of_decide_eq_false hst.symm
          have e : (dg r).length = 1 := by omega
          have := nv_some (m := 1) (r := r) (by omega)
          rw [this, e]
          rfl
        generalize r.getD 1 0 = c1 at hc1 hd
        subst h48
        clear hst hdig
        go_enter Try.func33, Try.ntmps33
        go_wp2_with fail
        refine same_mono (isDigit_any _ _) ?_
        rw [hd]
        go_wp2
        go_ret
        exact ⟨ret_i64 HV.out.symm, rfl⟩
    · have HV : Hid (nv 1 r = 1 + 1) := by
        show _ = _
        have e : (dg r).length = 1 := by omega
        have := nv_some (m := 1) (r := r) (by omega)
        rw [this, e]
        rfl
      subst h48
      clear hdig
      go_enter Try.func33, Try.ntmps33
      go_wp2
      go_ret
      exact ⟨ret_i64 HV.out.symm, rfl⟩
  · have f48 : (c == 48) = false := beq_eq_false_iff_ne.2 h48
    by_cases hd : 49 ≤ c ∧ c ≤ 57
    · have hdig : isDig (r.getD 0 0) = true := by rw [← hcv.out]; unfold isDig; exact decide_eq_true (by omega)
      have HV : Hid (nv 1 r = ((dg r).length : Int) + 1) := by
        have := dg_one hdig hne
        exact nv_some (m := 1) (r := r) (by rw [← hcv.out]; omega)
      obtain ⟨hd1, hd2⟩ := hd
      clear hdig h48
      go_enter Try.func33, Try.ntmps33
      go_wp2
      go_loop [3] (fun i => ∃ k : Nat, k ≤ (dg r).length ∧ i = .int .i64 ((k : Int) + 1)) (fun i => r.length + 1 - (intOf i).toNat)
      case atStart => exact ⟨0, Nat.zero_le _, rfl⟩
      case round =>
        obtain ⟨k, hk, rfl⟩ := hrel
        by_cases hlt : k < r.length
        · have hc1 := hcell.out k hlt
          cases hd : isDig (r.getD k 0) with
          | true =>
            have hk1 := tw_next isDig hk hlt hd
            generalize r.getD k 0 = x at hc1 hd
            clear hc0
            go_wp2_with fail
            refine same_mono (isDigit_any _ _) ?_
            rw [hd]
            go_wp2
            go_round
            case rel => exact ⟨k + 1, hk1, by go_num⟩
            case measure => simp [intOf]; omega
          | false =>
            have hend := tw_end isDig hk hlt hd
            have HK : Hid (nv 1 r = (k : Int) + 1) := by show _ = _; rw [HV.out, hend]; rfl
            generalize r.getD k 0 = x at hc1 hd
            clear hend hc0
            go_wp2_with fail
            refine same_mono (isDigit_any _ _) ?_
            rw [hd]
            go_wp2
            go_ret
            exact ⟨ret_i64 (by rw [HK.out]), rfl⟩
        · have hend := tw_over isDig hk hlt
          have HK : Hid (nv 1 r = (k : Int) + 1) := by show _ = _; rw [HV.out, hend]; rfl
          clear hend hc0
          go_wp2
          go_ret
          exact ⟨ret_i64 (by rw [HK.out]), rfl⟩
    · have hdig : isDig (r.getD 0 0) = false := by rw [← hcv.out]; unfold isDig; exact decide_eq_false (by omega)
      have HV : Hid (nv 1 r = -1) := nv_none (.inl (dg_no hdig hne))
      rcases (show c < 49 ∨ (¬ c < 49 ∧ 57 < c) by omega) with h1 | ⟨h1, h2⟩
      all_goals
        clear hdig hd h48
        go_enter Try.func33, Try.ntmps33
        go_wp2
        go_ret
        exact ⟨ret_i64 HV.out.symm, rfl⟩

theorem lenO_len {cs bs : List Int} (h : cs.length = bs.length) (o : Option (List Int)) : lenO cs o = lenO bs o := by
  cases o with
  | none => rfl
  | some r => simp [lenO, h]

theorem number_any {bs : List Int} {B : Nat} {a : Option Addr} (cap : Nat) {w : World} (hl : bs.length ≤ 4194304) (hh : Holds B w a bs) (hne : 0 < bs.length) :
    Calls Try.prog 33 #[.slice a bs.length cap] w fun e w' => e = .returned (.int .i64 (lenO bs (intP bs))) ∧ w' = w := by
  rcases hh with rfl | ⟨b, off, rfl, _, hcell⟩
  · simp at hne
  cases bs with
  | nil => simp at hne
  | cons c r =>
    by_cases h45 : c = 45
    · have e : intP (c :: r) = digR r := by
        unfold intP litR litB
        rw [h45]
        simp [starts]
      have hc0 : w.cell? ⟨b, off, none⟩ = some (.int .u8 45) := by
        have := hcell 0 (by simp)
        simpa [h45] using this
      rw [e]
      by_cases hr : 0 < r.length
      · have e2 : lenO (c :: r) (digR r) = nv 1 r := lenO_len (by simp) _
        rw [e2]
        exact num1_full b off cap w (by simp at hl; omega) hr (r.getD 0 0) (show _ = _ from rfl) hc0 (fun k hk => by
          have := hcell (k + 1) (by simp; omega)
          simpa [List.getD] using this)
      · obtain rfl : r = [] := List.length_eq_zero_iff.1 (by omega)
        have e2 : lenO (c :: []) (digR []) = -1 := rfl
        rw [e2]
        exact num1_empty b off cap w hc0
    · have e : intP (c :: r) = digR (c :: r) := by
        unfold intP litR litB
        simp [starts, h45]
      have e2 : lenO (c :: r) (digR (c :: r)) = nv 0 (c :: r) := lenO_len (by simp) _
      rw [e, e2]
      exact num0_full b off cap w hl hne c (show _ = _ by simp) h45 hcell
end Go.Proofs.Qxb6600744a
