/-
  The walk of FnStrRefusesEscapedByte (6).
-/
import Derived.Test.Qxb6600744aStrReads
namespace Go.Proofs.Qxb6600744a
open Go.RowKit

theorem below_six {w1 w2 w3 w4 w5 w6 w7 : World} {o p r : Obj} (h2 : Below w1.heap.size w1 w2) (h3 : Below w1.heap.size (w2.alloc o) w3) (h4 : Below w1.heap.size w3 w4) (h5 : Below w1.heap.size (w4.alloc p) w5) (h6 : Below w1.heap.size w5 w6) (h7 : Below w1.heap.size (w6.alloc r) w7) : Below w1.heap.size w1 w7 := by
  have h := below_four h2 h3 h4 h5
  have s5 := h.size
  have s6 := h6.size
  exact (h.trans h6).trans (below_alloc_of h7 (by omega))

/-- The plain law: a byte that is escaped, put into safe text, is refused. -/
theorem str_refuse (t rest : List Int) (c : Int) (h : ∀ x ∈ t, safe x = true) (hc : safe c = false) (hq : c ≠ 34) :
    strOk true (34 :: (t ++ c :: rest)) = false ∧ strS true (34 :: (t ++ c :: rest)) = [] := by
  have hs : sf (t ++ c :: rest) = t := by
    unfold sf
    rw [List.takeWhile_append_of_pos h]
    simp [hc]
  have hok : strOk true (34 :: (t ++ c :: rest)) = false := by
    unfold strOk closes
    rw [List.drop_one, List.tail_cons, hs]
    simp [hq]
  exact ⟨hok, by simp [strS, hok]⟩

set_option maxHeartbeats 3200000 in
theorem strRefuses_walk (s : ByteArray) (p c : Int) {a : Option Addr} {cap : Nat} {bs : List Int} {w : World} (hs : s.size ≤ maxLen) (hlen : bs.length ≤ maxLen) (hc0 : 0 ≤ c) (hc1 : c ≤ 255) (hbt : Bts bs) (hh : Holds w.heap.size w a bs) (hn : a = none → bs = [] ∧ cap = 0) :
    Calls Try.prog 6 #[.string s, .int .i64 p, .int .u8 c, .slice a bs.length cap] w fun e w' => e = .returned (.bool true) ∧ Below w.heap.size w w' := by
  by_cases hl : s.size + bs.length ≤ 1048576
  · have hcl := clone_any (by omega) hh hn
    have HCL : Hid (Calls Try.prog 12 #[.slice a bs.length cap] w _) := hcl
    clear hcl hs hlen
    have hbl := byt_length s
    have HBL : Hid ((byt s).length = s.size) := hbl
    have htw := tw_le safe (byt s)
    rw [hbl] at htw
    clear hbl
    by_cases hp : 0 ≤ p ∧ p ≤ s.size
    · obtain ⟨hp0, hp1⟩ := hp
      obtain ⟨q, rfl⟩ := Int.eq_ofNat_of_zero_le hp0
      have hq : q ≤ s.size := by omega
      by_cases hc : c = 34
      · subst hc
        go_enter Try.func6, Try.ntmps6
        go_wp2_with fail
        refine same_mono (zz21_y _ _ _ _ _ _ _ hl) ?_
        go_wp2
        go_ret
        exact ⟨rfl, Below.refl _ _⟩
      · have hcb : (c == 34) = false := beq_eq_false_iff_ne.2 hc
        cases hsafe : safe c with
        | true =>
          clear hc
          go_enter Try.func6, Try.ntmps6
          go_wp2_with fail
          refine same_mono (zz21_y _ _ _ _ _ _ _ hl) ?_
          go_wp2_with fail
          refine same_mono (safeByte_any _ _) ?_
          rw [hsafe]
          go_wp2
          go_ret
          exact ⟨rfl, Below.refl _ _⟩
        | false =>
          have HC : Hid (safe c = false ∧ c ≠ 34) := ⟨hsafe, hc⟩
          clear hc
          go_enter Try.func6, Try.ntmps6
          go_wp2_with fail
          refine same_mono (zz21_y _ _ _ _ _ _ _ hl) ?_
          go_wp2_with fail
          refine same_mono (safeByte_any _ _) ?_
          rw [hsafe]
          go_wp2_with fail
          go_loop [9] (fun i => ∃ k : Nat, k ≤ ((byt s).takeWhile safe).length ∧ i = .int .i64 k) (fun i => s.size - (intOf i).toNat)
          case atStart => exact ⟨0, Nat.zero_le _, rfl⟩
          case round =>
            obtain ⟨k, hk, rfl⟩ := hrel
            by_cases hlt : k < s.size
            · have hat := byt_at s k hlt
              cases hsf : safe ((byt s).getD k 0) with
              | true =>
                have hk1 := tw_next safe hk (by rw [HBL.out]; exact hlt) hsf
                rw [hat] at hsf
                clear hat
                go_wp2_with fail
                refine same_mono (safeByte_any _ _) ?_
                rw [hsf]
                go_wp2
                go_round
                case rel => exact ⟨k + 1, hk1, by go_num⟩
                case measure => simp [intOf]; omega
              | false =>
                rw [hat] at hsf
                clear hat
                go_wp2_with fail
                refine same_mono (safeByte_any _ _) ?_
                rw [hsf]
                go_wp2
                go_ret
                exact ⟨rfl, Below.refl _ _⟩
            · have hall : Hid (∀ c ∈ byt s, safe c = true) := by
                have hend := tw_over safe hk (by rw [HBL.out]; exact hlt)
                have e : (byt s).takeWhile safe = byt s := by
                  rw [tw_take safe (byt s)]
                  apply List.take_of_length_le
                  rw [HBL.out]; omega
                intro c hc
                rw [← e] at hc
                exact tw_all safe _ c hc
              clear htw hk
              have H0 : Hid ((byt (s.extract 0 q)).length = q) := by show _ = _; rw [byt_extract, List.length_take, List.length_drop, HBL.out]; omega
              have H1 : Hid ((byt (s.extract q s.size)).length = s.size - q) := by show _ = _; rw [byt_extract, List.length_take, List.length_drop, HBL.out]; omega
              go_wp2_with fail
              refine HCL.out.mono ?_
              rintro e w1 ⟨a1, cap1, rfl, hh1, _, _, hb1⟩
              clear HCL
              go_wp2_with (first
                | (at_make; refine wpList_make_buf _ rfl _ _ rfl ((s.size : Int) + (bs.length : Int) + 3) (s.size + bs.length + 3) rfl rfl (by omega) (by omega) ?_; intro w2 hbuf2 hb2 hz2)
                | (at_builtin; refine wpList_append_bufn _ rfl (.tmp 70) (.tmp 71) 22 rfl w1.heap.size 0 1 (s.size + bs.length + 3) [] [34] rfl rfl rfl _ rfl (hbuf2.alloc _) (src_new _ [34]) (by omega) ?_; intro w3 hbuf3 hb3)
                | (at_builtin; refine wpList_append_bufn _ rfl (.tmp 73) (.tmp 76) 9 rfl w1.heap.size _ q (s.size + bs.length + 3) _ (byt (s.extract 0 q)) rfl (by simp) (H0.out).symm _ rfl hbuf3 (src_string _ _) (by omega) ?_; intro w4 hbuf4 hb4)
                | (at_builtin; refine wpList_append_bufn _ rfl (.tmp 78) (.tmp 80) 22 rfl w1.heap.size _ 1 (s.size + bs.length + 3) _ [c] rfl (by simp [H0.out]; omega) rfl _ rfl (hbuf4.alloc _) (src_new _ [c]) (by omega) ?_; intro w5 hbuf5 hb5)
                | (at_builtin; refine wpList_append_bufn _ rfl (.tmp 82) (.tmp 85) 9 rfl w1.heap.size _ (s.size - q) (s.size + bs.length + 3) _ (byt (s.extract q s.size)) rfl (by simp [H0.out]; omega) (H1.out).symm _ rfl hbuf5 (src_string _ _) (by omega) ?_; intro w6 hbuf6 hb6)
                | (at_builtin; refine wpList_append_bufn _ rfl (.tmp 87) (.tmp 88) 22 rfl w1.heap.size _ 1 (s.size + bs.length + 3) _ [34] rfl (by simp [H0.out, H1.out]; omega) rfl _ rfl (hbuf6.alloc _) (src_new _ [34]) (by omega) ?_; intro w7 hbuf7 hb7)
                | (at_builtin; refine wpList_append_bufn _ rfl (.tmp 90) (.tmp 91) 22 rfl w1.heap.size _ bs.length (s.size + bs.length + 3) _ bs rfl (by simp [H0.out, H1.out]; omega) rfl _ rfl hbuf7 (src_holds (hh1.below (below_six hb2 hb3 hb4 hb5 hb6 hb7)) _) (by omega) ?_; intro w8 hbuf8 hb8))
              have hL : ([] ++ [34] ++ byt (s.extract 0 q) ++ [c] ++ byt (s.extract q s.size) ++ [34] ++ bs).length = 1 + q + 1 + (s.size - q) + 1 + bs.length := by simp [H0.out, H1.out]; omega
              have hbc : Bts [c] := fun x hx => by simp at hx; omega
              have hcall := zzstr_any (w := w8) (a := some ⟨w1.heap.size, 0, none⟩) (cap := s.size + bs.length + 3) (bs := [] ++ [34] ++ byt (s.extract 0 q) ++ [c] ++ byt (s.extract q s.size) ++ [34] ++ bs) true (Buf.holds hbuf8 (by rw [hL]; omega)) (by rw [hL]; omega) (by omega)
                (Bts.app (Bts.app (Bts.app (Bts.app (Bts.app (Bts.app (fun x hx => by simp at hx) bts34) (byt_bts _)) hbc) (byt_bts _)) bts34) hbt)
              have hE : ([] ++ [34] ++ byt (s.extract 0 q) ++ [c] ++ byt (s.extract q s.size) ++ [34] ++ bs) = 34 :: (byt (s.extract 0 q) ++ c :: (byt (s.extract q s.size) ++ 34 :: bs)) := by simp
              have hfin := str_refuse (byt (s.extract 0 q)) (byt (s.extract q s.size) ++ 34 :: bs) c (fun x hx => hall.out x (by rw [byt_extract] at hx; exact List.mem_of_mem_drop (List.mem_of_mem_take hx))) HC.out.1 HC.out.2
              rw [hL, hE, hfin.1, hfin.2] at hcall
              have he0 : strOfNums [] = { data := #[] } := rfl
              rw [he0] at hcall
              generalize (strR true (34 :: (byt (s.extract 0 q) ++ c :: (byt (s.extract q s.size) ++ 34 :: bs)))).length = nr at hcall
              clear hfin hL hE he0
              refine hcall.mono ?_
              rintro e w9 ⟨rfl, hb9⟩
              clear hcall hall
              go_wp2
              go_ret
              exact ⟨rfl, below_all hb1 (Below.refl _ _) ((below_six hb2 hb3 hb4 hb5 hb6 hb7).trans hb8) hb9⟩
    · rcases (show p < 0 ∨ (¬ p < 0 ∧ (s.size : Int) < p) by omega) with h1 | ⟨h1, h2⟩
      all_goals
        clear hp
        go_enter Try.func6, Try.ntmps6
        go_wp2_with fail
        refine same_mono (zz21_y _ _ _ _ _ _ _ hl) ?_
        go_wp2
        go_ret
        exact ⟨rfl, Below.refl _ _⟩
  · unfold maxLen at hs hlen
    go_enter Try.func6, Try.ntmps6
    go_wp2_with fail
    refine same_mono (zz21_n _ _ _ _ _ _ _ (by unfold maxLen; omega) (by unfold maxLen; omega) (by omega)) ?_
    go_wp2
    go_ret
    exact ⟨rfl, Below.refl _ _⟩
end Go.Proofs.Qxb6600744a
