/-
  The walk of FnStrReadsQuotedSafeText (10).
-/
import Derived.Test.Qxb6600744aBuf2
import Derived.Test.Qxb6600744aStr
namespace Go.Proofs.Qxb6600744a
open Go.RowKit

theorem bts34 : Bts [34] := fun x hx => by simp at hx; omega

theorem below_four {w1 w2 w3 w4 w5 : World} {o p : Obj} (h2 : Below w1.heap.size w1 w2) (h3 : Below w1.heap.size (w2.alloc o) w3) (h4 : Below w1.heap.size w3 w4) (h5 : Below w1.heap.size (w4.alloc p) w5) : Below w1.heap.size w1 w5 := by
  have s2 := h2.size
  have a3 := below_alloc_of h3 s2
  have s3 := a3.size
  have s4 := h4.size
  exact ((h2.trans a3).trans h4).trans (below_alloc_of h5 (by omega))

/-- The plain law: quoted safe text is read back. -/
theorem str_back (t bs : List Int) (h : ∀ c ∈ t, safe c = true) :
    strOk true ([] ++ [34] ++ t ++ [34] ++ bs) = true ∧ strS true ([] ++ [34] ++ t ++ [34] ++ bs) = t ∧ (strR true ([] ++ [34] ++ t ++ [34] ++ bs)).length = bs.length := by
  have e : [] ++ [34] ++ t ++ [34] ++ bs = 34 :: (t ++ 34 :: bs) := by simp
  rw [e]
  have hl : litB true [34] (34 :: (t ++ 34 :: bs)) = true := by simp [litB, starts]
  have hs : sf (t ++ 34 :: bs) = t := by
    unfold sf
    rw [List.takeWhile_append_of_pos h]
    have : safe 34 = false := by decide
    simp [this]
  have hok : strOk true (34 :: (t ++ 34 :: bs)) = true := by
    unfold strOk closes
    rw [hl, List.drop_one, List.tail_cons, hs]
    simp
  refine ⟨hok, ?_, ?_⟩
  · simp only [strS, hok, if_true, List.drop_one, List.tail_cons, hs]
  · simp [strR, hok, hs]

set_option maxHeartbeats 1600000 in
theorem strReads_walk (s : ByteArray) {a : Option Addr} {cap : Nat} {bs : List Int} {w : World} (hs : s.size ≤ maxLen) (hlen : bs.length ≤ maxLen) (hbt : Bts bs) (hh : Holds w.heap.size w a bs) (hn : a = none → bs = [] ∧ cap = 0) :
    Calls Try.prog 10 #[.string s, .slice a bs.length cap] w fun e w' => e = .returned (.bool true) ∧ Below w.heap.size w w' := by
  by_cases hl : s.size + bs.length ≤ 1048576
  · have hcl := clone_any (by omega) hh hn
    have HCL : Hid (Calls Try.prog 12 #[.slice a bs.length cap] w _) := hcl
    clear hcl hs hlen
    have hbl := byt_length s
    have HBL : Hid ((byt s).length = s.size) := hbl
    have htw := tw_le safe (byt s)
    rw [hbl] at htw
    clear hbl
    go_enter Try.func10, Try.ntmps10
    go_wp2_with fail
    refine same_mono (zz28_y _ _ _ _ _ hl) ?_
    go_wp2_with fail
    go_loop [5] (fun i => ∃ k : Nat, k ≤ ((byt s).takeWhile safe).length ∧ i = .int .i64 k) (fun i => s.size - (intOf i).toNat)
    case atStart => exact ⟨0, Nat.zero_le _, rfl⟩
    case round =>
      obtain ⟨k, hk, rfl⟩ := hrel
      by_cases hlt : k < s.size
      · have hat := byt_at s k hlt
        cases hsf : safe ((byt s).getD k 0) with
        | true =>
          have hk1 := tw_next safe hk (by rw [HBL.out]; exact hlt) hsf
          rw [hat] at hsf
          clear hat
          go_wp2_with fail
          refine same_mono (safeByte_any _ _) ?_
          rw [hsf]
          go_wp2
          go_round
          case rel => exact ⟨k + 1, hk1, by go_num⟩
          case measure => simp [intOf]; omega
        | false =>
          rw [hat] at hsf
          clear hat
          go_wp2_with fail
          refine same_mono (safeByte_any _ _) ?_
          rw [hsf]
          go_wp2
          go_ret
          exact ⟨rfl, Below.refl _ _⟩
      · have hall : Hid (∀ c ∈ byt s, safe c = true) := by
          have hend := tw_over safe hk (by rw [HBL.out]; exact hlt)
          have e : (byt s).takeWhile safe = byt s := by
            rw [tw_take safe (byt s)]
            apply List.take_of_length_le
            rw [HBL.out]; omega
          intro c hc
          rw [← e] at hc
          exact tw_all safe _ c hc
        go_wp2_with fail
        refine HCL.out.mono ?_
        rintro e w1 ⟨a1, cap1, rfl, hh1, hc1, hm1, hb1⟩
        clear HCL
        go_wp2_with (first
          | (at_make; refine wpList_make_buf _ rfl _ _ rfl ((s.size : Int) + (bs.length : Int) + 2) (s.size + bs.length + 2) rfl rfl (by omega) (by omega) ?_; intro w2 hbuf2 hb2 hz2)
          | (at_builtin; refine wpList_append_bufn _ rfl (.tmp 50) (.tmp 51) 22 rfl w1.heap.size 0 1 (s.size + bs.length + 2) [] [34] rfl rfl rfl _ rfl (hbuf2.alloc _) (src_new _ [34]) (by omega) ?_; intro w3 hbuf3 hb3)
          | (at_builtin; refine wpList_append_bufn _ rfl (.tmp 53) (.tmp 54) 9 rfl w1.heap.size 1 s.size (s.size + bs.length + 2) _ (byt s) rfl rfl HBL.out.symm _ rfl hbuf3 (src_string _ _) (by omega) ?_; intro w4 hbuf4 hb4)
          | (at_builtin; refine wpList_append_bufn _ rfl (.tmp 56) (.tmp 57) 22 rfl w1.heap.size (1 + s.size) 1 (s.size + bs.length + 2) _ [34] rfl (by simp [HBL.out]; omega) rfl _ rfl (hbuf4.alloc _) (src_new _ [34]) (by omega) ?_; intro w5 hbuf5 hb5)
          | (at_builtin; refine wpList_append_bufn _ rfl (.tmp 59) (.tmp 60) 22 rfl w1.heap.size (1 + s.size + 1) bs.length (s.size + bs.length + 2) _ bs rfl (by simp [HBL.out]; omega) rfl _ rfl hbuf5 (src_holds (hh1.below (below_four hb2 hb3 hb4 hb5)) _) (by omega) ?_; intro w6 hbuf6 hb6))
        have hfin := str_back (byt s) bs hall.out
        have hL : ([] ++ [34] ++ byt s ++ [34] ++ bs).length = 1 + s.size + 1 + bs.length := by simp [HBL.out]; omega
        have hcall := zzstr_any (w := w6) (a := some ⟨w1.heap.size, 0, none⟩) (cap := s.size + bs.length + 2) (bs := [] ++ [34] ++ byt s ++ [34] ++ bs) true (Buf.holds hbuf6 (by rw [hL]; omega)) (by rw [hL]; omega) (by omega)
          (Bts.app (Bts.app (Bts.app (Bts.app (fun x hx => by simp at hx) bts34) (byt_bts s)) bts34) hbt)
        rw [hfin.1, hfin.2.1, hfin.2.2, hL, strOfNums_byt] at hcall
        clear hfin hL
        refine hcall.mono ?_
        rintro e w7 ⟨rfl, hb7⟩
        clear hcall hall
        go_wp2
        go_ret
        exact ⟨rfl, below_all hb1 (Below.refl _ _) ((below_four hb2 hb3 hb4 hb5).trans hb6) hb7⟩
  · unfold maxLen at hs hlen
    go_enter Try.func10, Try.ntmps10
    go_wp2_with fail
    refine same_mono (zz28_n _ _ _ _ _ (by unfold maxLen; omega) (by unfold maxLen; omega) (by omega)) ?_
    go_wp2
    go_ret
    exact ⟨rfl, Below.refl _ _⟩
end Go.Proofs.Qxb6600744a
