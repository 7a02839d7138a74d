/-
  The walk of FnUintReadsWhatItWrites (4).
-/
import Derived.Test.Qxb6600744aUtoa
import Derived.Test.Qxb6600744aBuf
namespace Go.Proofs.Qxb6600744a
open Go.RowKit

theorem same_mono {f : FuncId} {args : Array Value} {w : World} {E : Ending} {Q : Ending → World → Prop} (h : Calls Try.prog f args w fun e w' => e = E ∧ w' = w) (k : Q E w) : Calls Try.prog f args w Q :=
  h.mono (by rintro e w' ⟨rfl, rfl⟩; exact k)

theorem digits_bts {ds : List Int} (h : ∀ c ∈ ds, isDig c = true) : Bts ds := fun c hc => by
  have := h c hc
  unfold isDig at this
  have := of_decide_eq_true this
  omega

/-- The plain law: what utoa writes is read back. -/
theorem uint_back {v : Int} {ds bs : List Int} (hu : Utoa v ds) (hd : dg bs = []) (hv : v ≤ 18446744073709551615) :
    uintOk true (ds ++ bs) = true ∧ uintV true (ds ++ bs) = v ∧ (uintR true (ds ++ bs)).length = bs.length := by
  have hdg : dg (ds ++ bs) = ds := by
    unfold dg at hd ⊢
    rw [List.takeWhile_append_of_pos hu.dig, hd, List.append_nil]
  have h0 : 0 < ds.length := List.length_pos_iff.2 hu.ne
  have hok : uintOk true (ds ++ bs) = true := by
    simp only [uintOk, Bool.true_and, hdg, hu.val]
    apply decide_eq_true
    refine ⟨hv, by omega, fun h => ?_⟩
    have e : (ds ++ bs).getD 0 0 = ds.getD 0 0 := by simp [List.getD, List.getElem?_append_left h0]
    rw [e] at h
    rcases hu.head with h1 | h1
    · omega
    · exact h1 h.2
  refine ⟨hok, ?_, ?_⟩
  · simp only [uintV, hok, if_true, hdg, hu.val]
  · simp [uintR, hok, hdg]

theorem below_all {w w1 w2 w5 w6 : World} (h1 : Below w.heap.size w w1) (h2 : Below w1.heap.size w1 w2) (h3 : Below w2.heap.size w2 w5) (h4 : Below w5.heap.size w5 w6) : Below w.heap.size w w6 := by
  have s1 := h1.size
  have s2 := h2.size
  have s3 := h3.size
  exact ((h1.trans (h2.mono s1)).trans (h3.mono (by omega))).trans (h4.mono (by omega))

theorem src_digits (w : World) {ds : List Int} (h : ∀ c ∈ ds, isDig c = true) : Src Try.prog 1 9 (.string (strOfNums ds)) ds.length (ds.map (Value.int .u8)) w := by
  have := src_string w (strOfNums ds)
  rwa [byt_strOfNums (digits_bts h)] at this

set_option maxHeartbeats 1600000 in
theorem uintReads_walk (v : Int) (hv0 : 0 ≤ v) (hv1 : v ≤ 18446744073709551615) {a : Option Addr} {cap : Nat} {bs : List Int} {w : World} (hbt : Bts bs) (hh : Holds w.heap.size w a bs) (hn : a = none → bs = [] ∧ cap = 0) :
    Calls Try.prog 4 #[.int .u64 v, .slice a bs.length cap] w fun e w' => e = .returned (.bool true) ∧ Below w.heap.size w w' := by
  by_cases hl : bs.length ≤ 1048576
  · by_cases hdd : 0 < bs.length ∧ isDig (bs.getD 0 0) = true
    · obtain ⟨hne, hd⟩ := hdd
      rcases hh with rfl | ⟨b, off, rfl, hbb, hcell⟩
      · simp at hne
      · have hc0 : w.cell? ⟨b, off, none⟩ = some (.int .u8 (bs.getD 0 0)) := hcell 0 hne
        generalize bs.getD 0 0 = c0 at hc0 hd
        go_enter Try.func4, Try.ntmps4
        go_wp2_with fail
        refine same_mono (zz17_y _ _ _ _ _ hl) ?_
        go_wp2_with fail
        refine same_mono (isDigit_any _ _) ?_
        rw [hd]
        go_wp2
        go_ret
        exact ⟨rfl, Below.refl _ _⟩
    · have hdg : Hid (dg bs = []) := by
        show _ = _
        unfold dg
        cases bs with
        | nil => rfl
        | cons c l =>
          have : ¬ isDig c = true := fun h => hdd ⟨by simp, by simpa using h⟩
          simp [this]
      have hcl := clone_any hl hh hn
      rcases Nat.eq_zero_or_pos bs.length with hz | hne
      · have hz' : bs.length ≤ 0 := by omega
        clear hz hdd
        go_enter Try.func4, Try.ntmps4
        go_wp2_with fail
        refine same_mono (zz17_y _ _ _ _ _ hl) ?_
        go_wp2_with fail
        refine hcl.mono ?_
        rintro e w1 ⟨a1, cap1, rfl, hh1, hc1, hm1, hb1⟩
        clear hcl
        go_wp2_with fail
        refine (utoa_any v hv0 hv1 _).mono ?_
        rintro e w2 ⟨ds, rfl, hu, hb2⟩
        have hu20 := hu.len
        have hsz := strOfNums_size ds
        have hsrc := fun w => src_digits w hu.dig
        have hh2 : Holds w1.heap.size w2 a1 bs := hh1.below hb2
        have hw12 := hb2.size
        go_wp2_with (first
          | (at_make; refine wpList_make_buf _ rfl _ _ rfl ((ds.length : Int) + (bs.length : Int)) (ds.length + bs.length) rfl rfl (by omega) (by omega) ?_; intro w3 hbuf3 hb3 hz3)
          | (at_builtin; refine wpList_append_buf _ rfl (.tmp 36) (.tmp 37) 9 rfl w2.heap.size 0 (ds.length + bs.length) [] ds rfl rfl _ rfl hbuf3 (hsrc _) (by omega) ?_; intro w4 hbuf4 hb4)
          | (at_builtin; refine wpList_append_buf _ rfl (.tmp 39) (.tmp 40) 22 rfl w2.heap.size ds.length (ds.length + bs.length) _ bs rfl (by simp) _ rfl hbuf4 (src_holds ((hh2.mono hw12).below (hb3.trans hb4)) _) (by omega) ?_; intro w5 hbuf5 hb5))
        have hfin := uint_back hu hdg.out hv1
        have hcall := zzuint_any (w := w5) (a := some ⟨w2.heap.size, 0, none⟩) (cap := ds.length + bs.length) (bs := ds ++ bs) true (Buf.holds hbuf5 (by simp)) (by simp) (by omega) (Bts.app (digits_bts hu.dig) hbt)
        rw [hfin.1, hfin.2.1, hfin.2.2, List.length_append] at hcall
        clear hfin
        refine hcall.mono ?_
        rintro e w6 ⟨rfl, hb6⟩
        go_wp2
        go_ret
        exact ⟨rfl, below_all hb1 hb2 (hb3.trans (hb4.trans hb5)) hb6⟩
      · rcases hh with rfl | ⟨b, off, rfl, hbb, hcell⟩
        · simp at hne
        · have hc0 : w.cell? ⟨b, off, none⟩ = some (.int .u8 (bs.getD 0 0)) := hcell 0 hne
          have hd : isDig (bs.getD 0 0) = false := by
            cases hq : isDig (bs.getD 0 0) with
            | true => exact absurd ⟨hne, hq⟩ hdd
            | false => rfl
          generalize bs.getD 0 0 = c0 at hc0 hd
          clear hdd
          go_enter Try.func4, Try.ntmps4
          go_wp2_with fail
          refine same_mono (zz17_y _ _ _ _ _ hl) ?_
          go_wp2_with fail
          refine same_mono (isDigit_any _ _) ?_
          rw [hd]
          go_wp2_with fail
          refine hcl.mono ?_
          rintro e w1 ⟨a1, cap1, rfl, hh1, hc1, hm1, hb1⟩
          clear hcl
          go_wp2_with fail
          refine (utoa_any v hv0 hv1 _).mono ?_
          rintro e w2 ⟨ds, rfl, hu, hb2⟩
          have hu20 := hu.len
          have hsz := strOfNums_size ds
          have hsrc := fun w => src_digits w hu.dig
          have hh2 : Holds w1.heap.size w2 a1 bs := hh1.below hb2
          have hw12 := hb2.size
          go_wp2_with (first
            | (at_make; refine wpList_make_buf _ rfl _ _ rfl ((ds.length : Int) + (bs.length : Int)) (ds.length + bs.length) rfl rfl (by omega) (by omega) ?_; intro w3 hbuf3 hb3 hz3)
            | (at_builtin; refine wpList_append_buf _ rfl (.tmp 36) (.tmp 37) 9 rfl w2.heap.size 0 (ds.length + bs.length) [] ds rfl rfl _ rfl hbuf3 (hsrc _) (by omega) ?_; intro w4 hbuf4 hb4)
            | (at_builtin; refine wpList_append_buf _ rfl (.tmp 39) (.tmp 40) 22 rfl w2.heap.size ds.length (ds.length + bs.length) _ bs rfl (by simp) _ rfl hbuf4 (src_holds ((hh2.mono hw12).below (hb3.trans hb4)) _) (by omega) ?_; intro w5 hbuf5 hb5))
          have hfin := uint_back hu hdg.out hv1
          have hcall := zzuint_any (w := w5) (a := some ⟨w2.heap.size, 0, none⟩) (cap := ds.length + bs.length) (bs := ds ++ bs) true (Buf.holds hbuf5 (by simp)) (by simp) (by omega) (Bts.app (digits_bts hu.dig) hbt)
          rw [hfin.1, hfin.2.1, hfin.2.2, List.length_append] at hcall
          clear hfin
          refine hcall.mono ?_
          rintro e w6 ⟨rfl, hb6⟩
          go_wp2
          go_ret
          exact ⟨rfl, below_all hb1 hb2 (hb3.trans (hb4.trans hb5)) hb6⟩
  · go_enter Try.func4, Try.ntmps4
    go_wp2_with fail
    refine same_mono (zz17_n _ _ _ _ _ (by omega)) ?_
    go_wp2
    go_ret
    exact ⟨rfl, Below.refl _ _⟩
end Go.Proofs.Qxb6600744a
