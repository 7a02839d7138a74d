/-
  The walk of quotedLen (20).
-/
import Derived.Test.Qxb6600744aStrReads
namespace Go.Proofs.Qxb6600744a
open Go.RowKit

/-- What quotedLen answers. -/
def qlen (bs : List Int) : Int := if strOk true bs then ((sf (bs.drop 1)).length : Int) + 2 else -1

def nq (c : Int) : Bool := decide (c ≠ 34)

theorem strOk_cons (c : Int) (r : List Int) : strOk true (c :: r) = (decide (c = 34) && closes r) := by
  unfold strOk litB starts
  simp

/-- Up to the first quote: all safe? -/
theorem closes_quote {r : List Int} {e : Nat} (he : e = (r.takeWhile nq).length) (hl : e < r.length) : closes r = decide (e ≤ (sf r).length) := by
  have hq : r.getD e 0 = 34 := by
    have h1 := tw_step nq (bs := r) (k := e) (by omega) hl
    rw [decide_eq_false (by omega)] at h1
    unfold nq at h1
    have := of_decide_eq_false h1
    omega
  have hs : (sf r).length ≤ e := by
    rcases Nat.lt_or_ge e (sf r).length with h | h
    · have h1 := tw_step safe (bs := r) (k := e) (by unfold sf at h; omega) hl
      rw [hq] at h1
      unfold sf at h
      rw [decide_eq_true h] at h1
      exact absurd h1 (by decide)
    · exact h
  unfold closes
  rw [decide_eq_decide]
  constructor
  · intro h
    rcases Nat.lt_or_ge (sf r).length e with h2 | h2
    · have h1 := tw_step nq (bs := r) (k := (sf r).length) (by omega) (by omega)
      rw [h, decide_eq_true (by omega)] at h1
      exact absurd h1 (by decide)
    · exact h2
  · intro h
    have : (sf r).length = e := by omega
    rw [this]
    exact hq

theorem closes_none {r : List Int} (h : (r.takeWhile nq).length = r.length) : closes r = false := by
  unfold closes
  apply decide_eq_false
  intro hq
  have hl : (sf r).length < r.length := by
    rcases Nat.lt_or_ge (sf r).length r.length with h2 | h2
    · exact h2
    · rw [List.getD, List.getElem?_eq_none h2] at hq
      simp at hq
  have h1 := tw_step nq (bs := r) (k := (sf r).length) (by omega) hl
  rw [hq, decide_eq_true (by omega)] at h1
  exact absurd h1 (by decide)

/-- .. behind the opening quote. -/
def qv (r : List Int) : Int := if closes r then ((sf r).length : Int) + 2 else -1

theorem ret_i64 {a b : Int} (h : a = b) : Ending.returned (.int .i64 a) = .returned (.int .i64 b) := by rw [h]

theorem quoted_empty (a : Option Addr) (cap : Nat) (w : World) :
    Calls Try.prog 20 #[.slice a 0 cap] w fun e w' => e = .returned (.int .i64 (-1)) ∧ w' = w := by
  go_enter Try.func20, Try.ntmps20
  go_wp2
  go_ret
  exact ⟨rfl, rfl⟩

theorem quoted_other (b off n cap : Nat) (c : Int) (w : World) (hn : 0 < n) (hc : w.cell? ⟨b, off, none⟩ = some (.int .u8 c)) (h : (c != 34) = true) :
    Calls Try.prog 20 #[.slice (some ⟨b, off, none⟩) n cap] w fun e w' => e = .returned (.int .i64 (-1)) ∧ w' = w := by
  have h0 : ((n : Int) == 0) = false := beq_eq_false_iff_ne.2 (by omega)
  go_enter Try.func20, Try.ntmps20
  go_wp2
  go_ret
  exact ⟨rfl, rfl⟩

set_option maxHeartbeats 1600000 in
theorem quoted_open (b off cap : Nat) (r : List Int) (w : World) (hl : r.length ≤ 4194304) (hc0 : w.cell? ⟨b, off, none⟩ = some (.int .u8 34)) (hcell : ∀ k, k < r.length → w.cell? ⟨b, off + (k + 1), none⟩ = some (.int .u8 (r.getD k 0))) :
    Calls Try.prog 20 #[.slice (some ⟨b, off, none⟩) (r.length + 1) cap] w fun e w' => e = .returned (.int .i64 (qv r)) ∧ w' = w := by
  have hne : (((r.length : Int) + 1) == 0) = false := beq_eq_false_iff_ne.2 (by omega)
  have hq34 : ((34 : Int) != 34) = false := rfl
  have htl := tw_le nq r
  have HC : Hid (∀ k, k < r.length → w.cell? ⟨b, off + (k + 1), none⟩ = some (.int .u8 (r.getD k 0))) := hcell
  clear hcell
  go_enter Try.func20, Try.ntmps20
  go_wp2
  go_loop [3] (fun i => ∃ k : Nat, k ≤ (r.takeWhile nq).length ∧ i = .int .i64 ((k : Int) + 1)) (fun i => r.length + 1 - (intOf i).toNat)
  case atStart => exact ⟨0, Nat.zero_le _, rfl⟩
  case round =>
    obtain ⟨k, hk, rfl⟩ := hrel
    by_cases hlt : k < r.length
    · have hc1 := HC.out k hlt
      cases hn : nq (r.getD k 0) with
      | true =>
        have hk1 := tw_next nq hk hlt hn
        unfold nq at hn
        have hn' := of_decide_eq_true hn
        generalize r.getD k 0 = c at hc1 hn'
        have e1 : (c != 34) = true := by rw [bne_iff_ne]; exact hn'
        clear hn hn'
        go_wp2
        go_round
        case rel => exact ⟨k + 1, hk1, by go_num⟩
        case measure => simp [intOf]; omega
      | false =>
        have hend := tw_end nq hk hlt hn
        have HCL : Hid (closes r = decide (k ≤ (sf r).length)) := closes_quote hend hlt
        unfold nq at hn
        have hn' : r.getD k 0 = 34 := by have := of_decide_eq_false hn; omega
        have HQ : Hid (r.getD k 0 = 34) := hn'
        rw [hn'] at hc1
        have hne2 : (((k : Int) + 1) == ((r.length : Int) + 1)) = false := beq_eq_false_iff_ne.2 (by omega)
        clear hend hn hn'
        go_wp2
        go_loop [4] (fun i => ∃ j : Nat, j ≤ k ∧ j ≤ (r.takeWhile safe).length ∧ i = .int .i64 ((j : Int) + 1)) (fun i => k + 1 - (intOf i).toNat)
        case atStart => exact ⟨0, Nat.zero_le _, Nat.zero_le _, rfl⟩
        case round =>
          obtain ⟨j, hj, hjs, rfl⟩ := hrel
          by_cases hjk : j < k
          · have hc2 := HC.out j (by omega)
            cases hsf : safe (r.getD j 0) with
            | true =>
              have hj1 := tw_next safe hjs (by omega) hsf
              generalize r.getD j 0 = c at hc2 hsf
              go_wp2_with fail
              refine same_mono (safeByte_any _ _) ?_
              rw [hsf]
              go_wp2
              go_round
              case rel => exact ⟨j + 1, by omega, hj1, by go_num⟩
              case measure => simp [intOf]; omega
            | false =>
              have hj1 := tw_end safe hjs (by omega) hsf
              have HF : Hid (closes r = false) := by
                show _ = _
                rw [HCL.out]
                apply decide_eq_false
                unfold sf
                omega
              clear hj1
              generalize r.getD j 0 = c at hc2 hsf
              go_wp2_with fail
              refine same_mono (safeByte_any _ _) ?_
              rw [hsf]
              go_wp2
              go_ret
              exact ⟨ret_i64 (by simp [qv, HF.out]), rfl⟩
          · have HT : Hid (closes r = true) := by
              show _ = _
              rw [HCL.out]
              apply decide_eq_true
              unfold sf
              omega
            have HN : Hid ((sf r).length = k) := by
              show _ = _
              have h1 := HT.out
              have h2 := hj
              have h3 := of_decide_eq_true (HCL.out.symm.trans h1)
              rcases Nat.lt_or_ge k (sf r).length with h4 | h4
              · have h5 := tw_step safe (bs := r) (k := k) (by unfold sf at h4; omega) hlt
                have h6 : safe (r.getD k 0) = true := by rw [h5]; exact decide_eq_true h4
                rw [HQ.out] at h6
                exact absurd h6 (by decide)
              · omega
            go_wp2
            go_ret
            exact ⟨ret_i64 (by simp only [qv, HT.out, HN.out, if_true]; omega), rfl⟩
    · have hend := tw_over nq hk hlt
      have HCL : Hid (closes r = false) := closes_none (by omega)
      have heq : (((k : Int) + 1) == ((r.length : Int) + 1)) = true := beq_iff_eq.2 (by omega)
      clear hend
      go_wp2
      go_ret
      exact ⟨ret_i64 (by simp [qv, HCL.out]), rfl⟩

theorem quoted_any {B : Nat} {a : Option Addr} {bs : List Int} (cap : Nat) {w : World} (hl : bs.length ≤ 4194304) (hh : Holds B w a bs) :
    Calls Try.prog 20 #[.slice a bs.length cap] w fun e w' => e = .returned (.int .i64 (qlen bs)) ∧ w' = w := by
  cases bs with
  | nil => exact quoted_empty a cap w
  | cons c r =>
    rcases hh with h | ⟨b, off, rfl, _, hcell⟩
    · cases h
    · have hc0 : w.cell? ⟨b, off, none⟩ = some (.int .u8 c) := hcell 0 (by simp)
      by_cases hc : c = 34
      · subst hc
        have := quoted_open b off cap r w (by simp at hl; omega) hc0 (fun k hk => by
          have := hcell (k + 1) (by simp; omega)
          simpa [List.getD] using this)
        have e : qlen (34 :: r) = qv r := by
          unfold qlen qv
          rw [strOk_cons]
          simp
        rw [e]
        exact this
      · have e : qlen (c :: r) = -1 := by
          unfold qlen
          rw [strOk_cons]
          simp [hc]
        rw [e]
        exact quoted_other b off _ cap c w (by simp) hc0 (by rw [bne_iff_ne]; exact hc)
end Go.Proofs.Qxb6600744a
