/-
  The walk of FnValueNestsInArrayAndObject (9).
-/
import Derived.Test.Qxb6600744aValue
import Derived.Test.Qxb6600744aPlainNest
import Derived.Test.Qxb6600744aStrReads
namespace Go.Proofs.Qxb6600744a
open Go.RowKit

theorem chain {B g : Nat} {x y z : World} (hq : Below B x y) (hb : Below g y z) (hg : B ≤ g) : Below B x z := hq.trans (hb.mono hg)
theorem chainA {B g : Nat} {x y z : World} {o : Obj} (hq : Below B x y) (hb : Below g (y.alloc o) z) (hg : B ≤ g) (hgy : g < y.heap.size) : Below B x z :=
  hq.trans ((below_alloc_of hb (Nat.le_of_lt hgy)).mono hg)

theorem bts_one (c : Int) (h0 : 0 ≤ c) (h1 : c ≤ 255) : Bts [c] := fun x hx => by simp at hx; omega
theorem bts_two (c e : Int) (h0 : 0 ≤ c) (h1 : c ≤ 255) (h2 : 0 ≤ e) (h3 : e ≤ 255) : Bts [c, e] := fun x hx => by simp at hx; omega

theorem arr_call {w : World} {g : Nat} {bs : List Int} {d : Int} {n F : Nat} (hd1 : d ≤ 31) (hin : inInt d) (hl : bs.length + n ≤ 1048576) (hbt : Bts bs) (hr : rd F 0 (wd d) bs = some []) (hbuf : Buf w g (2 * bs.length + 3) ([] ++ [91] ++ bs ++ [44] ++ bs ++ [93])) :
    Calls Try.prog 24 #[.slice (some ⟨g, 0, none⟩) (1 + bs.length + 1 + bs.length + 1) (2 * bs.length + 3), .bool true, .int .i64 d] w fun e w' => e = .returned (.tuple #[.int .i64 0, .bool true]) ∧ Below w.heap.size w w' := by
  have h1 := nest_arr (show d ≠ 32 by omega) hr
  have hE : [] ++ [91] ++ bs ++ [44] ++ bs ++ [93] = 91 :: (bs ++ (44 :: (bs ++ [93]))) := by simp
  rw [hE] at hbuf
  have hb : Bts (91 :: (bs ++ (44 :: (bs ++ [93])))) := by
    rw [← hE]
    exact Bts.app (Bts.app (Bts.app (Bts.app (Bts.app (fun x hx => by simp at hx) (bts_one 91 (by omega) (by omega))) hbt) (bts_one 44 (by omega) (by omega))) hbt) (bts_one 93 (by omega) (by omega))
  have hlen : (91 :: (bs ++ (44 :: (bs ++ [93])))).length = 1 + bs.length + 1 + bs.length + 1 := by simp; omega
  clear hE
  generalize (91 :: (bs ++ (44 :: (bs ++ [93])))) = L at *
  obtain ⟨G, hG1, hG2⟩ : ∃ G, F + 4 ≤ G ∧ 2 * L.length + 1 ≤ G := ⟨F + 4 + (2 * L.length + 1), by omega, by omega⟩
  have h2 : rd G 0 d L = some [] := rd_le (f := F + 4) (g := G) hG1 h1
  have := zzvalue_some (w := w) (a := some ⟨g, 0, none⟩) (cap := 2 * bs.length + 3) d G hG2 h2 hin (Buf.holds hbuf (by omega)) (by omega) (by omega) hb
  rw [hlen] at this
  simp only [List.length_nil, Int.natCast_zero] at this
  exact this

theorem obj_call {w : World} {g : Nat} {bs : List Int} {s : ByteArray} {d : Int} {F : Nat} (hd1 : d ≤ 31) (hin : inInt d) (hl : bs.length + s.size ≤ 1048576) (hbt : Bts bs) (hr : rd F 0 (wd d) bs = some []) (hk : ∀ c ∈ byt s, safe c = true)
    (hbuf : Buf w g (s.size + bs.length + 5) ([] ++ [123, 34] ++ byt s ++ [34, 58] ++ bs ++ [125])) :
    Calls Try.prog 24 #[.slice (some ⟨g, 0, none⟩) (2 + s.size + 2 + bs.length + 1) (s.size + bs.length + 5), .bool true, .int .i64 d] w fun e w' => e = .returned (.tuple #[.int .i64 0, .bool true]) ∧ Below w.heap.size w w' := by
  have h1 := nest_obj (show d ≠ 32 by omega) hk hr
  have hE : [] ++ [123, 34] ++ byt s ++ [34, 58] ++ bs ++ [125] = 123 :: 34 :: (byt s ++ (34 :: 58 :: (bs ++ [125]))) := by simp
  rw [hE] at hbuf
  have hb : Bts (123 :: 34 :: (byt s ++ (34 :: 58 :: (bs ++ [125])))) := by
    rw [← hE]
    exact Bts.app (Bts.app (Bts.app (Bts.app (Bts.app (fun x hx => by simp at hx) (bts_two 123 34 (by omega) (by omega) (by omega) (by omega))) (byt_bts s)) (bts_two 34 58 (by omega) (by omega) (by omega) (by omega))) hbt) (bts_one 125 (by omega) (by omega))
  have hlen : (123 :: 34 :: (byt s ++ (34 :: 58 :: (bs ++ [125])))).length = 2 + s.size + 2 + bs.length + 1 := by simp [byt_length]; omega
  clear hE
  generalize (123 :: 34 :: (byt s ++ (34 :: 58 :: (bs ++ [125])))) = L at *
  obtain ⟨G, hG1, hG2⟩ : ∃ G, F + 4 ≤ G ∧ 2 * L.length + 1 ≤ G := ⟨F + 4 + (2 * L.length + 1), by omega, by omega⟩
  have h2 : rd G 0 d L = some [] := rd_le (f := F + 4) (g := G) hG1 h1
  have := zzvalue_some (w := w) (a := some ⟨g, 0, none⟩) (cap := s.size + bs.length + 5) d G hG2 h2 hin (Buf.holds hbuf (by omega)) (by omega) (by omega) hb
  rw [hlen] at this
  simp only [List.length_nil, Int.natCast_zero] at this
  exact this

set_option maxHeartbeats 6400000 in
theorem nests_go (s : ByteArray) {a : Option Addr} {cap : Nat} {bs : List Int} {w : World} (d : Int) (hl : bs.length + s.size ≤ 1048576) (hd0 : -9223372036854775808 ≤ d) (hd1 : d ≤ 31) (hbt : Bts bs) (hh : Holds w.heap.size w a bs) (hn : a = none → bs = [] ∧ cap = 0) :
    Calls Try.prog 9 #[.slice a bs.length cap, .string s, .int .i64 d] w fun e w' => e = .returned (.bool true) ∧ Below w.heap.size w w' := by
  have HCL : Hid (Calls Try.prog 12 #[.slice a bs.length cap] w _) := clone_any (by omega) hh hn
  clear hh hn
  have HBL : Hid ((byt s).length = s.size) := byt_length s
  have htw := tw_le safe (byt s)
  rw [HBL.out] at htw
  have HWD : Hid (wd d = d + 1) := by show _ = _; unfold wd; rw [if_neg (by omega)]
  go_enter Try.func9, Try.ntmps9
  go_wp2_with fail
  refine same_mono (zz27_y _ _ _ _ _ _ hl) ?_
  go_wp2_with fail
  go_loop [7] (fun i => ∃ k : Nat, k ≤ ((byt s).takeWhile safe).length ∧ i = .int .i64 k) (fun i => s.size - (intOf i).toNat)
  case atStart => exact ⟨0, Nat.zero_le _, rfl⟩
  case round =>
    obtain ⟨k, hk, rfl⟩ := hrel
    by_cases hlt : k < s.size
    · have hat := byt_at s k hlt
      cases hsf : safe ((byt s).getD k 0) with
      | true =>
        have hk1 := tw_next safe hk (by rw [HBL.out]; exact hlt) hsf
        rw [hat] at hsf
        clear hat
        go_wp2_with fail
        refine same_mono (safeByte_any _ _) ?_
        rw [hsf]
        go_wp2_with fail
        go_round
        case rel => exact ⟨k + 1, hk1, by go_num⟩
        case measure => simp [intOf]; omega
      | false =>
        rw [hat] at hsf
        clear hat
        go_wp2_with fail
        refine same_mono (safeByte_any _ _) ?_
        rw [hsf]
        go_wp2_with fail
        go_ret
        exact ⟨rfl, Below.refl _ _⟩
    · have hall : Hid (∀ c ∈ byt s, safe c = true) := by
        have hend := tw_over safe hk (by rw [HBL.out]; exact hlt)
        have e : (byt s).takeWhile safe = byt s := by
          rw [tw_take safe (byt s)]
          apply List.take_of_length_le
          rw [HBL.out]; omega
        intro c hc
        rw [← e] at hc
        exact tw_all safe _ c hc
      clear htw hk
      go_wp2_with fail
      refine HCL.out.mono ?_
      rintro e w1 ⟨a1, cap1, rfl, hh1, hc1, hm1, hb1⟩
      clear HCL
      have hin1 : inInt (d + 1) := ⟨by omega, by omega⟩
      have hin0 : inInt d := ⟨by omega, by omega⟩
      obtain ⟨F, hF⟩ : ∃ F, 2 * bs.length + 1 ≤ F := ⟨_, Nat.le_refl _⟩
      cases hr : rd F 0 (d + 1) bs with
      | none =>
        have hcall := zzvalue_none (d + 1) F hF hr hin1 hh1 hc1 (by omega) hbt
        have HC : Hid (Calls Try.prog 24 #[.slice a1 bs.length cap1, .bool true, .int .i64 (d + 1)] w1 _) := hcall
        clear hcall hr hin1 hin0
        go_wp2_with fail
        refine HC.out.mono ?_
        rintro e w2 ⟨n, rfl, hb2⟩
        go_wp2_with fail
        go_ret
        exact ⟨rfl, hb1.trans (hb2.mono hb1.size)⟩
      | some r =>
        have HC : Hid (Calls Try.prog 24 #[.slice a1 bs.length cap1, .bool true, .int .i64 (d + 1)] w1 _) := zzvalue_some (d + 1) F hF hr hin1 hh1 hc1 (by omega) hbt
        by_cases hr0 : r.length = 0
        · obtain rfl : r = [] := List.length_eq_zero_iff.1 hr0
          have HR : Hid (rd F 0 (wd d) bs = some []) := by show _ = _; rw [HWD.out]; exact hr
          clear hr hr0 hin1
          simp only [List.length_nil] at HC
          go_wp2_with fail
          refine HC.out.mono ?_
          rintro e w2 ⟨rfl, hb2⟩
          clear HC
          have hq2 := hb2
          have hB := hb2.size
          go_wp2_with (first
            | (at_make; refine wpList_make_buf _ rfl _ _ rfl (2 * (bs.length : Int) + 3) (2 * bs.length + 3) rfl rfl (by omega) (by omega) ?_; intro w3 hbuf3 hb3 hz3; have hq3 := chain hq2 hb3 hB)
            | (at_builtin; refine wpList_append_bufn _ rfl (.tmp 70) (.tmp 71) 22 rfl w2.heap.size _ 1 (2 * bs.length + 3) _ [91] rfl (by simp) rfl _ rfl (hbuf3.alloc _) (src_new _ [91]) (by omega) ?_; intro w4 hbuf4 hb4; have hq4 := chainA hq3 hb4 hB (World.rowIs.lt hbuf3))
            | (at_builtin; refine wpList_append_bufn _ rfl (.tmp 73) (.tmp 74) 22 rfl w2.heap.size _ bs.length (2 * bs.length + 3) _ bs rfl (by simp) rfl _ rfl hbuf4 (src_holds (hh1.below hq4) _) (by omega) ?_; intro w5 hbuf5 hb5; have hq5 := chain hq4 hb5 hB)
            | (at_builtin; refine wpList_append_bufn _ rfl (.tmp 76) (.tmp 77) 22 rfl w2.heap.size _ 1 (2 * bs.length + 3) _ [44] rfl (by simp; omega) rfl _ rfl (hbuf5.alloc _) (src_new _ [44]) (by omega) ?_; intro w6 hbuf6 hb6; have hq6 := chainA hq5 hb6 hB (World.rowIs.lt hbuf5))
            | (at_builtin; refine wpList_append_bufn _ rfl (.tmp 79) (.tmp 80) 22 rfl w2.heap.size _ bs.length (2 * bs.length + 3) _ bs rfl (by simp; omega) rfl _ rfl hbuf6 (src_holds (hh1.below hq6) _) (by omega) ?_; intro w7 hbuf7 hb7; have hq7 := chain hq6 hb7 hB)
            | (at_builtin; refine wpList_append_bufn _ rfl (.tmp 82) (.tmp 83) 22 rfl w2.heap.size _ 1 (2 * bs.length + 3) _ [93] rfl (by simp; omega) rfl _ rfl (hbuf7.alloc _) (src_new _ [93]) (by omega) ?_; intro w8 hbuf8 hb8; have hq8 := chainA hq7 hb8 hB (World.rowIs.lt hbuf7)))
          have HC : Hid (Calls Try.prog 24 #[.slice (some ⟨w2.heap.size, 0, none⟩) (1 + bs.length + 1 + bs.length + 1) (2 * bs.length + 3), .bool true, .int .i64 d] w8 _) := arr_call hd1 hin0 hl hbt HR.out hbuf8
          clear hbuf3 hbuf4 hbuf5 hbuf6 hbuf7 hbuf8 hb3 hb4 hb5 hb6 hb7 hb8 hz3 hq3 hq4 hq5 hq6 hq7
          refine HC.out.mono ?_
          rintro e w9 ⟨rfl, hb9⟩
          clear HC
          have hq9 := chain hq8 hb9 hq8.size
          have hB2 := hq9.size
          clear hq2 hb2 hB hq8 hb9
          go_wp2_with (first
            | (at_make; refine wpList_make_buf _ rfl _ _ rfl ((s.size : Int) + (bs.length : Int) + 5) (s.size + bs.length + 5) rfl rfl (by omega) (by omega) ?_; intro w10 hbuf10 hb10 hz10; have hq10 := chain hq9 hb10 hB2)
            | (at_builtin; refine wpList_append_bufn _ rfl (.tmp 98) (.tmp 99) 22 rfl w9.heap.size _ 2 (s.size + bs.length + 5) _ [123, 34] rfl (by simp) rfl _ rfl (hbuf10.alloc _) (src_new _ [123, 34]) (by omega) ?_; intro w11 hbuf11 hb11; have hq11 := chainA hq10 hb11 hB2 (World.rowIs.lt hbuf10))
            | (at_builtin; refine wpList_append_bufn _ rfl (.tmp 101) (.tmp 102) 9 rfl w9.heap.size _ s.size (s.size + bs.length + 5) _ (byt s) rfl (by simp) HBL.out.symm _ rfl hbuf11 (src_string _ _) (by omega) ?_; intro w12 hbuf12 hb12; have hq12 := chain hq11 hb12 hB2)
            | (at_builtin; refine wpList_append_bufn _ rfl (.tmp 104) (.tmp 105) 22 rfl w9.heap.size _ 2 (s.size + bs.length + 5) _ [34, 58] rfl (by simp [HBL.out]; omega) rfl _ rfl (hbuf12.alloc _) (src_new _ [34, 58]) (by omega) ?_; intro w13 hbuf13 hb13; have hq13 := chainA hq12 hb13 hB2 (World.rowIs.lt hbuf12))
            | (at_builtin; refine wpList_append_bufn _ rfl (.tmp 107) (.tmp 108) 22 rfl w9.heap.size _ bs.length (s.size + bs.length + 5) _ bs rfl (by simp [HBL.out]; omega) rfl _ rfl hbuf13 (src_holds (hh1.below hq13) _) (by omega) ?_; intro w14 hbuf14 hb14; have hq14 := chain hq13 hb14 hB2)
            | (at_builtin; refine wpList_append_bufn _ rfl (.tmp 110) (.tmp 111) 22 rfl w9.heap.size _ 1 (s.size + bs.length + 5) _ [125] rfl (by simp [HBL.out]; omega) rfl _ rfl (hbuf14.alloc _) (src_new _ [125]) (by omega) ?_; intro w15 hbuf15 hb15; have hq15 := chainA hq14 hb15 hB2 (World.rowIs.lt hbuf14)))
          have HC : Hid (Calls Try.prog 24 #[.slice (some ⟨w9.heap.size, 0, none⟩) (2 + s.size + 2 + bs.length + 1) (s.size + bs.length + 5), .bool true, .int .i64 d] w15 _) := obj_call hd1 hin0 hl hbt HR.out hall.out hbuf15
          clear hbuf10 hbuf11 hbuf12 hbuf13 hbuf14 hbuf15 hb10 hb11 hb12 hb13 hb14 hb15 hz10 hq10 hq11 hq12 hq13 hq14
          refine HC.out.mono ?_
          rintro e w16 ⟨rfl, hb16⟩
          clear HC
          have hq16 := chain hq15 hb16 hq15.size
          go_wp2_with fail
          go_ret
          exact ⟨rfl, chain hb1 hq16 hb1.size⟩
        · have hr1 : ((r.length : Int) != 0) = true := by rw [bne_iff_ne]; omega
          clear hr hr0 hin1 hin0
          go_wp2_with fail
          refine HC.out.mono ?_
          rintro e w2 ⟨rfl, hb2⟩
          go_wp2_with fail
          go_ret
          exact ⟨rfl, hb1.trans (hb2.mono hb1.size)⟩

theorem nests_walk (s : ByteArray) {a : Option Addr} {cap : Nat} {bs : List Int} {w : World} (d : Int) (hs : s.size ≤ maxLen) (hlen : bs.length ≤ maxLen) (hd0 : -9223372036854775808 ≤ d) (hbt : Bts bs) (hh : Holds w.heap.size w a bs) (hn : a = none → bs = [] ∧ cap = 0) :
    Calls Try.prog 9 #[.slice a bs.length cap, .string s, .int .i64 d] w fun e w' => e = .returned (.bool true) ∧ Below w.heap.size w w' := by
  by_cases hl : bs.length + s.size ≤ 1048576
  · by_cases hd1 : d ≤ 31
    · exact nests_go s d hl hd0 hd1 hbt hh hn
    · go_enter Try.func9, Try.ntmps9
      go_wp2_with fail
      refine same_mono (zz27_y _ _ _ _ _ _ hl) ?_
      go_wp2_with fail
      go_ret
      exact ⟨rfl, Below.refl _ _⟩
  · unfold maxLen at hs hlen
    go_enter Try.func9, Try.ntmps9
    go_wp2_with fail
    refine same_mono (zz27_n _ _ _ _ _ _ (by unfold maxLen; omega) (by unfold maxLen; omega) (by omega)) ?_
    go_wp2_with fail
    go_ret
    exact ⟨rfl, Below.refl _ _⟩
end Go.Proofs.Qxb6600744a
