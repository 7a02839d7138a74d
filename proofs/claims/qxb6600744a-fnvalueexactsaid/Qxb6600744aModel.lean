/-
  The walk of modelValue (25).
-/
import Derived.Test.Qxb6600744aModelInv
import Derived.Deep.DeepCutAuto
namespace Go.Proofs.Qxb6600744a
open Go.RowKit

def tst (d : Int) : Bool := decide (d ≤ 32 ∧ -2097120 ≤ d)
theorem tst_lim {d L : Int} (h : L = limOf d) : (tst d = true → 32 - d = L) ∧ (tst d = false → L = -1) := by
  constructor
  · intro ht
    have := of_decide_eq_true ht
    rw [h]; unfold limOf; rw [if_pos this]
  · intro ht
    have := of_decide_eq_false ht
    rw [h]; unfold limOf; rw [if_neg this]

theorem ms_obj {L : Int} {stk bs : List Int} {q : Nat} (hlim : ¬ (stk.length : Int) = L) (h : bs.drop q = 123 :: bs.drop (q + 1)) : mstep L 0 stk (bs.drop q) = opened 125 1 stk (bs.drop (q + 1)) := by
  rw [h]; simp [mstep, hlim]
theorem ms_arr {L : Int} {stk bs : List Int} {q : Nat} (hlim : ¬ (stk.length : Int) = L) (h : bs.drop q = 91 :: bs.drop (q + 1)) : mstep L 0 stk (bs.drop q) = opened 93 0 stk (bs.drop (q + 1)) := by
  rw [h]; simp [mstep, hlim]
theorem ms_leaf {L c : Int} {stk bs : List Int} {q : Nat} (hlim : ¬ (stk.length : Int) = L) (h : bs.drop q = c :: bs.drop (q + 1)) (h1 : c ≠ 123) (h2 : c ≠ 91) :
    (leaf c (bs.drop q) = none → mstep L 0 stk (bs.drop q) = .inl false) ∧ (∀ y, leaf c (bs.drop q) = some y → mstep L 0 stk (bs.drop q) = .inr (2, stk, y)) := by
  rw [h]
  constructor
  · intro hv; simp [mstep, hlim, h1, h2, hv]
  · intro y hv; simp [mstep, hlim, h1, h2, hv]
theorem op_yes {x : Int} {st : Nat} {stk bs : List Int} {q : Nat} (h : q + 1 < bs.length) (hx : bs.getD (q + 1) 0 = x) : opened x st stk (bs.drop (q + 1)) = .inr (2, stk, bs.drop (q + 2)) := by
  unfold opened
  rw [drop_cons h, starts_cons, decide_eq_true hx]
  simp
theorem op_no {x : Int} {st : Nat} {stk bs : List Int} {q : Nat} (h : ¬ q + 1 < bs.length ∨ bs.getD (q + 1) 0 ≠ x) : opened x st stk (bs.drop (q + 1)) = .inr (st, x :: stk, bs.drop (q + 1)) := by
  unfold opened
  by_cases hl : q + 1 < bs.length
  · have hx : bs.getD (q + 1) 0 ≠ x := by
      rcases h with h | h
      · exact absurd hl h
      · exact h
    rw [drop_cons hl, starts_cons, decide_eq_false hx]
    simp
  · rw [List.drop_of_length_le (by omega)]
    simp [starts]
theorem cell_new1 (w : World) (x : Int) : ∀ j u, [Value.int .u8 x][j]? = some u → (w.alloc (.cells #[.int .u8 x] 5)).cell? ((⟨w.heap.size, 0, none⟩ : Addr).add j) = some u := by
  intro j u hj
  match j, hj with
  | 0, hj => simp at hj; subst hj; simp [Addr.add]
  | j + 1, hj => simp at hj
theorem all_cons {c : Int} {stk : List Int} (hc : c = 93 ∨ c = 125) (h : ∀ x ∈ stk, x = 93 ∨ x = 125) : ∀ x ∈ c :: stk, x = 93 ∨ x = 125 := by
  intro x hx
  rcases List.mem_cons.1 hx with rfl | h1
  · exact hc
  · exact h x h1
theorem one_cell (x : Int) : ∀ u ∈ [Value.int .u8 x], u.oneCell' = true := by
  intro u hu; simp at hu; subst hu; rfl
theorem below_grown {base : Nat} {w wr w1 : World} {v : Value} {o : Obj} {stk : List Int} (hb : Below base w wr) (hbase : base ≤ w.heap.size) (hs : Stk base wr v stk) (hg : (wr.alloc o).grownBy w1 v.ownBlock) : Below base wr w1 := by
  have h1 := hb.size
  exact ((Below.refl base wr).alloc (by omega) o).grown hg (by simp; omega) hs.own

set_option maxHeartbeats 20000000 in
set_option maxRecDepth 1000000 in
theorem model_full {bs : List Int} (b off cap : Nat) (w : World) (d : Int) (L : Int) (hLv : Hid ((tst d = true → 32 - d = L) ∧ (tst d = false → L = -1))) (hl : bs.length ≤ 1048576) (hne : 0 < bs.length) (hcap : bs.length ≤ cap) (hbb : b < w.heap.size) (hcell : Hid (∀ k, k < bs.length → w.cell? ⟨b, off + k, none⟩ = some (.int .u8 (bs.getD k 0))))
    (R : Option (List Int)) (hR : Hid (R = mrun L (bs.length + 2) 0 [] bs)) :
    Calls Try.prog 25 #[.slice (some ⟨b, off, none⟩) bs.length cap, .int .i64 d] w fun e w' => e = .returned (.tuple #[.bool R.isSome, .int .i64 (usedO bs R)]) ∧ Below w.heap.size w w' := by
  obtain ⟨i0, hi, hz0, hz1, hz2⟩ := size5
  have hbn : bs ≠ [] := by intro h; simp [h] at hne
  go_enter Try.func25, Try.ntmps25
  go_upto_region 2 with fail
  go_cut [21] (fun v w' => v = .bool (tst d) ∧ w = w')
  case first =>
    by_cases h1 : d ≤ 32
    · by_cases h2 : -2097120 ≤ d
      · have HT : Hid (tst d = true) := decide_eq_true ⟨h1, h2⟩
        go_wp2_with fail
        go_meet
        case rel => exact ⟨by rw [HT.out], rfl⟩
      · have HT : Hid (tst d = false) := decide_eq_false (by omega)
        go_wp2_with fail
        go_meet
        case rel => exact ⟨by rw [HT.out], rfl⟩
    · have HT : Hid (tst d = false) := decide_eq_false (by omega)
      go_wp2_with fail
      go_meet
      case rel => exact ⟨by rw [HT.out], rfl⟩
  case rest =>
  obtain ⟨rfl, rfl⟩ := hcut
  go_upto_if 21 with fail
  go_cut [6] (fun v w' => v = .int .i64 L ∧ w = w')
  case first =>
    cases ht : tst d with
    | true =>
      have e := hLv.out.1 ht
      have h1 := of_decide_eq_true ht
      clear ht
      obtain ⟨h1, h2⟩ := h1
      go_wp2_with fail
      go_meet
      case rel => exact ⟨rfl, rfl⟩
    | false =>
      have e := hLv.out.2 ht
      have HE : Hid (L = -1) := e
      clear ht e
      go_wp2_with fail
      go_meet
      case rel => exact ⟨by rw [HE.out], rfl⟩
  case rest =>
  obtain ⟨rfl, rfl⟩ := hcut
  go_wp2_with fail
  clear hLv
  go_loopw [7, 8, 9, 10] (fun v p s i wr => ∃ (k st q : Nat) (stk : List Int), i = .int .i64 k ∧ p = .int .i64 q ∧ s = .int .i64 st ∧ MI w.heap.size w bs L R k st q stk v wr) (fun _ _ _ i _ => bs.length + 2 - (intOf i).toNat)
  case atStart => exact ⟨0, 0, 0, [], rfl, rfl, rfl, ⟨⟨bs.length + 2, by omega, by simpa using hR.out⟩, by omega, by omega, Stk.nil _ _, by simp, by simp, Below.refl _ _⟩⟩
  case round =>
    obtain ⟨k, st, q, stk, rfl, rfl, rfl, hmi⟩ := hrel
    have HI : Hid (MI w.heap.size w bs L R k st q stk u7 wr) := hmi
    have hq := hmi.hp
    have hstl := hmi.hlen
    have hst2 := hmi.hst
    have HB : Hid (Below w.heap.size w wr) := hmi.hb
    obtain ⟨av, cv, rfl⟩ := hmi.hs.form
    clear hmi hR
    by_cases hk : k ≤ bs.length + 1
    · rcases (show st = 0 ∨ st = 1 ∨ st = 2 by omega) with rfl | rfl | rfl
      · by_cases hlim : (stk.length : Int) = L
        · have HR : Hid (R = none) := HI.out.reject (by simp [mstep, hlim])
          have hlim' : ((stk.length : Int) == L) = true := beq_iff_eq.2 hlim
          clear hlim
          go_wp2
          go_ret2
          exact ⟨by rw [HR.out]; rfl, HB.out⟩
        · have hlim' : ((stk.length : Int) == L) = false := beq_eq_false_iff_ne.2 hlim
          by_cases hqb : q < bs.length
          · obtain ⟨c, hcv⟩ : ∃ c, c = bs.getD q 0 := ⟨_, rfl⟩
            have hc1 : wr.cell? ⟨b, off + q, none⟩ = some (.int .u8 c) := by rw [hcv]; exact (HB.out.cell (by exact hbb)).trans (hcell.out q hqb)
            have hdc : bs.drop q = c :: bs.drop (q + 1) := by rw [hcv]; exact drop_cons hqb
            have HDC : Hid (bs.drop q = c :: bs.drop (q + 1)) := hdc
            clear hdc hcv
            by_cases h123 : c = 123
            · subst h123
              have HMS := ms_obj hlim HDC.out
              by_cases hn : q + 1 < bs.length
              · have hc2 : wr.cell? ⟨b, off + (q + 1), none⟩ = some (.int .u8 (bs.getD (q + 1) 0)) := (HB.out.cell (by exact hbb)).trans (hcell.out (q + 1) hn)
                by_cases hx : bs.getD (q + 1) 0 = 125
                · have HN : Hid (MI w.heap.size w bs L R (k + 1) 2 (q + 2) stk (.slice av stk.length cv) wr) := HI.out.next hk (by rw [HMS]; exact op_yes hn hx) (by omega) (by omega) HI.out.hs (by omega) HI.out.hall (Below.refl _ _)
                  rw [hx] at hc2
                  clear HMS hx hlim
                  go_wp2
                  go_roundw
                  case rel => exact ⟨k + 1, 2, q + 2, stk, by go_num, by go_num, rfl, HN.out⟩
                  case measure => simp [intOf]; omega
                · have HMS2 : Hid (mstep L 0 stk (bs.drop q) = .inr (1, 125 :: stk, bs.drop (q + 1))) := by show _ = _; rw [HMS]; exact op_no (.inr hx)
                  generalize bs.getD (q + 1) 0 = c2 at hc2 hx
                  have hx' : (c2 == 125) = false := beq_eq_false_iff_ne.2 hx
                  clear hx HMS
                  clear hlim
                  go_wp2_with (first
                    | (at_builtin; refine wpList_append_own _ rfl (.tmp 71) (.tmp 73) 22 rfl w.heap.size 5 i0 (.int .u8 0) 1 1 Try.underlying22 hi hz0 hz1 hz2 rfl (by decide) _ stk.length (stk.reverse.map (Value.int .u8)) rfl (World.ownsRow.alloc HI.out.hs _) ⟨wr.heap.size, 0, none⟩ 1 1 [.int .u8 125] rfl rfl (cell_new1 _ _) (one_cell _) (by unfold maxLen; omega) (by omega) (by have := HB.out.size; simp; omega) ?_; intro v' w1 hown' hgrow _)
                    | go_in)
                  have HN : Hid (MI w.heap.size w bs L R (k + 1) 1 (q + 1) (125 :: stk) v' w1) := HI.out.next hk HMS2.out (by omega) (by omega) (Stk.push hown') (by simp) (all_cons (by omega) HI.out.hall) (below_grown HB.out (Nat.le_refl _) HI.out.hs hgrow)
                  clear hown' hgrow
                  go_wp2
                  go_roundw
                  case rel => exact ⟨k + 1, 1, q + 1, 125 :: stk, by go_num, by go_num, rfl, HN.out⟩
                  case measure => simp [intOf]; omega
              · have HMS2 : Hid (mstep L 0 stk (bs.drop q) = .inr (1, 125 :: stk, bs.drop (q + 1))) := by show _ = _; rw [HMS]; exact op_no (.inl hn)
                clear HMS
                clear hlim
                go_wp2_with (first
                  | (at_builtin; refine wpList_append_own _ rfl (.tmp 71) (.tmp 73) 22 rfl w.heap.size 5 i0 (.int .u8 0) 1 1 Try.underlying22 hi hz0 hz1 hz2 rfl (by decide) _ stk.length (stk.reverse.map (Value.int .u8)) rfl (World.ownsRow.alloc HI.out.hs _) ⟨wr.heap.size, 0, none⟩ 1 1 [.int .u8 125] rfl rfl (cell_new1 _ _) (one_cell _) (by unfold maxLen; omega) (by omega) (by have := HB.out.size; simp; omega) ?_; intro v' w1 hown' hgrow _)
                  | go_in)
                have HN : Hid (MI w.heap.size w bs L R (k + 1) 1 (q + 1) (125 :: stk) v' w1) := HI.out.next hk HMS2.out (by omega) (by omega) (Stk.push hown') (by simp) (all_cons (by omega) HI.out.hall) (below_grown HB.out (Nat.le_refl _) HI.out.hs hgrow)
                clear hown' hgrow
                go_wp2
                go_roundw
                case rel => exact ⟨k + 1, 1, q + 1, 125 :: stk, by go_num, by go_num, rfl, HN.out⟩
                case measure => simp [intOf]; omega
            · by_cases h91 : c = 91
              · subst h91
                have HMS := ms_arr hlim HDC.out
                by_cases hn : q + 1 < bs.length
                · have hc2 : wr.cell? ⟨b, off + (q + 1), none⟩ = some (.int .u8 (bs.getD (q + 1) 0)) := (HB.out.cell (by exact hbb)).trans (hcell.out (q + 1) hn)
                  by_cases hx : bs.getD (q + 1) 0 = 93
                  · have HN : Hid (MI w.heap.size w bs L R (k + 1) 2 (q + 2) stk (.slice av stk.length cv) wr) := HI.out.next hk (by rw [HMS]; exact op_yes hn hx) (by omega) (by omega) HI.out.hs (by omega) HI.out.hall (Below.refl _ _)
                    rw [hx] at hc2
                    clear HMS hx hlim
                    go_wp2
                    go_roundw
                    case rel => exact ⟨k + 1, 2, q + 2, stk, by go_num, by go_num, rfl, HN.out⟩
                    case measure => simp [intOf]; omega
                  · have HMS2 : Hid (mstep L 0 stk (bs.drop q) = .inr (0, 93 :: stk, bs.drop (q + 1))) := by show _ = _; rw [HMS]; exact op_no (.inr hx)
                    generalize bs.getD (q + 1) 0 = c2 at hc2 hx
                    have hx' : (c2 == 93) = false := beq_eq_false_iff_ne.2 hx
                    clear hx HMS
                    clear hlim
                    go_wp2_with (first
                      | (at_builtin; refine wpList_append_own _ rfl (.tmp 71) (.tmp 73) 22 rfl w.heap.size 5 i0 (.int .u8 0) 1 1 Try.underlying22 hi hz0 hz1 hz2 rfl (by decide) _ stk.length (stk.reverse.map (Value.int .u8)) rfl (World.ownsRow.alloc HI.out.hs _) ⟨wr.heap.size, 0, none⟩ 1 1 [.int .u8 93] rfl rfl (cell_new1 _ _) (one_cell _) (by unfold maxLen; omega) (by omega) (by have := HB.out.size; simp; omega) ?_; intro v' w1 hown' hgrow _)
                      | go_in)
                    have HN : Hid (MI w.heap.size w bs L R (k + 1) 0 (q + 1) (93 :: stk) v' w1) := HI.out.next hk HMS2.out (by omega) (by omega) (Stk.push hown') (by simp) (all_cons (by omega) HI.out.hall) (below_grown HB.out (Nat.le_refl _) HI.out.hs hgrow)
                    clear hown' hgrow
                    go_wp2
                    go_roundw
                    case rel => exact ⟨k + 1, 0, q + 1, 93 :: stk, by go_num, by go_num, rfl, HN.out⟩
                    case measure => simp [intOf]; omega
                · have HMS2 : Hid (mstep L 0 stk (bs.drop q) = .inr (0, 93 :: stk, bs.drop (q + 1))) := by show _ = _; rw [HMS]; exact op_no (.inl hn)
                  clear HMS
                  clear hlim
                  go_wp2_with (first
                    | (at_builtin; refine wpList_append_own _ rfl (.tmp 71) (.tmp 73) 22 rfl w.heap.size 5 i0 (.int .u8 0) 1 1 Try.underlying22 hi hz0 hz1 hz2 rfl (by decide) _ stk.length (stk.reverse.map (Value.int .u8)) rfl (World.ownsRow.alloc HI.out.hs _) ⟨wr.heap.size, 0, none⟩ 1 1 [.int .u8 93] rfl rfl (cell_new1 _ _) (one_cell _) (by unfold maxLen; omega) (by omega) (by have := HB.out.size; simp; omega) ?_; intro v' w1 hown' hgrow _)
                    | go_in)
                  have HN : Hid (MI w.heap.size w bs L R (k + 1) 0 (q + 1) (93 :: stk) v' w1) := HI.out.next hk HMS2.out (by omega) (by omega) (Stk.push hown') (by simp) (all_cons (by omega) HI.out.hall) (below_grown HB.out (Nat.le_refl _) HI.out.hs hgrow)
                  clear hown' hgrow
                  go_wp2
                  go_roundw
                  case rel => exact ⟨k + 1, 0, q + 1, 93 :: stk, by go_num, by go_num, rfl, HN.out⟩
                  case measure => simp [intOf]; omega
              · have f123 : (c == 123) = false := beq_eq_false_iff_ne.2 h123
                have f91 : (c == 91) = false := beq_eq_false_iff_ne.2 h91
                obtain ⟨HM, HM2⟩ := ms_leaf hlim HDC.out h123 h91
                have hhr : Holds w.heap.size wr (adv (some ⟨b, off, none⟩) cap q) (bs.drop q) := Holds.drop (cap := cap) (Or.inr ⟨b, off, rfl, hbb, fun j hj => (HB.out.cell (by exact hbb)).trans (hcell.out j hj)⟩) q hcap
                have hlq : (bs.drop q).length = bs.length - q := List.length_drop
                have hnq : 0 < (bs.drop q).length := by rw [hlq]; omega
                have hgq : (bs.drop q).getD 0 0 = c := by rw [HDC.out]; rfl
                have HCQ : Hid (Calls Try.prog 20 #[.slice (adv (some ⟨b, off, none⟩) cap q) (bs.length - q) (cap - q)] wr fun e w' => e = .returned (.int .i64 (qlen (bs.drop q))) ∧ w' = wr) := by have := quoted_any (bs := bs.drop q) (cap - q) (by rw [hlq]; omega) hhr; rw [hlq] at this; exact this
                have HCW : Hid ((c = 116 ∨ c = 102 ∨ c = 110) → Calls Try.prog 32 #[.slice (adv (some ⟨b, off, none⟩) cap q) (bs.length - q) (cap - q)] wr fun e w' => e = .returned (.int .i64 (lenO (bs.drop q) (leaf c (bs.drop q)))) ∧ ∃ n, w' = wr.drewN n) := by intro h3; have := word_any (bs := bs.drop q) (cap - q) c (by rw [hlq]; omega) hhr hnq hgq h3; rw [hlq] at this; exact this
                have HCN : Hid (Calls Try.prog 33 #[.slice (adv (some ⟨b, off, none⟩) cap q) (bs.length - q) (cap - q)] wr fun e w' => e = .returned (.int .i64 (lenO (bs.drop q) (intP (bs.drop q)))) ∧ w' = wr) := by have := number_any (bs := bs.drop q) (cap - q) (by rw [hlq]; omega) hhr hnq; rw [hlq] at this; exact this
                clear hhr hlq hnq hgq
                have hsl := run_from (some ⟨b, off, none⟩) bs.length cap q (by omega)
                by_cases h34 : c = 34
                · subst h34
                  have hct : Calls Try.prog 20 #[.slice (adv (some ⟨b, off, none⟩) cap q) (bs.length - q) (cap - q)] wr _ := HCQ.out
                  go_wp2_with fail
                  refine same_mono hct ?_
                  rw [qlen_lenO, ← leaf34]
                  clear hct hlim
                  cases hv : leaf 34 (bs.drop q) with
                  | none =>
                    have HR : Hid (R = none) := HI.out.reject (HM hv)
                    have e : lenO (bs.drop q) none = -1 := rfl
                    rw [e]
                    clear hv HM
                    go_wp2
                    go_ret2
                    exact ⟨by rw [HR.out]; rfl, HB.out⟩
                  | some y =>
                    have hyl := leaf_len hv
                    obtain ⟨m, hm1, hm2, hm3⟩ := place_of hq (leaf_drop hv) (Nat.le_of_lt hyl)
                    have e : lenO (bs.drop q) (some y) = (m : Int) := hm2
                    have HN : Hid (MI w.heap.size w bs L R (k + 1) 2 (q + m) stk (.slice av stk.length cv) wr) := HI.out.next hk (by rw [HM2 y hv, hm3]) hm1 (by omega) (HI.out.hs) (by omega) HI.out.hall (Below.refl _ _)
                    rw [e]
                    clear hv HM2 hm2 hm3 hyl e
                    go_wp2
                    go_roundw
                    case rel => exact ⟨k + 1, 2, q + m, stk, by go_num, by go_num, rfl, HN.out⟩
                    case measure => simp [intOf]; omega
                · have f34 : (c == 34) = false := beq_eq_false_iff_ne.2 h34
                  by_cases h116 : c = 116
                  · subst h116
                    have hw3 : (116 : Int) = 116 ∨ (116 : Int) = 102 ∨ (116 : Int) = 110 := by omega
                    have hct : Calls Try.prog 32 #[.slice (adv (some ⟨b, off, none⟩) cap q) (bs.length - q) (cap - q)] wr _ := HCW.out hw3
                    have g1 : ((116 : Int) == 34) = false := rfl
                    go_wp2_with fail
                    refine hct.mono ?_
                    rintro e' w3 ⟨rfl, n3, rfl⟩
                    clear hct hlim
                    cases hv : leaf 116 (bs.drop q) with
                    | none =>
                      have HR : Hid (R = none) := HI.out.reject (HM hv)
                      have e : lenO (bs.drop q) none = -1 := rfl
                      rw [e]
                      clear hv HM
                      go_wp2
                      go_ret2
                      exact ⟨by rw [HR.out]; rfl, (below_drawn HB.out n3)⟩
                    | some y =>
                      have hyl := leaf_len hv
                      obtain ⟨m, hm1, hm2, hm3⟩ := place_of hq (leaf_drop hv) (Nat.le_of_lt hyl)
                      have e : lenO (bs.drop q) (some y) = (m : Int) := hm2
                      have HN : Hid (MI w.heap.size w bs L R (k + 1) 2 (q + m) stk (.slice av stk.length cv) (wr.drewN n3)) := HI.out.next hk (by rw [HM2 y hv, hm3]) hm1 (by omega) (show Stk _ _ _ _ from HI.out.hs) (by omega) HI.out.hall (below_drawn (Below.refl _ _) n3)
                      rw [e]
                      clear hv HM2 hm2 hm3 hyl e
                      go_wp2
                      go_roundw
                      case rel => exact ⟨k + 1, 2, q + m, stk, by go_num, by go_num, rfl, HN.out⟩
                      case measure => simp [intOf]; omega
                  · by_cases h102 : c = 102
                    · subst h102
                      have hw3 : (102 : Int) = 116 ∨ (102 : Int) = 102 ∨ (102 : Int) = 110 := by omega
                      have hct : Calls Try.prog 32 #[.slice (adv (some ⟨b, off, none⟩) cap q) (bs.length - q) (cap - q)] wr _ := HCW.out hw3
                      have g1 : ((102 : Int) == 34) = false := rfl
                      have g2 : ((102 : Int) == 116) = false := rfl
                      go_wp2_with fail
                      refine hct.mono ?_
                      rintro e' w3 ⟨rfl, n3, rfl⟩
                      clear hct hlim
                      cases hv : leaf 102 (bs.drop q) with
                      | none =>
                        have HR : Hid (R = none) := HI.out.reject (HM hv)
                        have e : lenO (bs.drop q) none = -1 := rfl
                        rw [e]
                        clear hv HM
                        go_wp2
                        go_ret2
                        exact ⟨by rw [HR.out]; rfl, (below_drawn HB.out n3)⟩
                      | some y =>
                        have hyl := leaf_len hv
                        obtain ⟨m, hm1, hm2, hm3⟩ := place_of hq (leaf_drop hv) (Nat.le_of_lt hyl)
                        have e : lenO (bs.drop q) (some y) = (m : Int) := hm2
                        have HN : Hid (MI w.heap.size w bs L R (k + 1) 2 (q + m) stk (.slice av stk.length cv) (wr.drewN n3)) := HI.out.next hk (by rw [HM2 y hv, hm3]) hm1 (by omega) (show Stk _ _ _ _ from HI.out.hs) (by omega) HI.out.hall (below_drawn (Below.refl _ _) n3)
                        rw [e]
                        clear hv HM2 hm2 hm3 hyl e
                        go_wp2
                        go_roundw
                        case rel => exact ⟨k + 1, 2, q + m, stk, by go_num, by go_num, rfl, HN.out⟩
                        case measure => simp [intOf]; omega
                    · by_cases h110 : c = 110
                      · subst h110
                        have hw3 : (110 : Int) = 116 ∨ (110 : Int) = 102 ∨ (110 : Int) = 110 := by omega
                        have hct : Calls Try.prog 32 #[.slice (adv (some ⟨b, off, none⟩) cap q) (bs.length - q) (cap - q)] wr _ := HCW.out hw3
                        have g1 : ((110 : Int) == 34) = false := rfl
                        have g2 : ((110 : Int) == 116) = false := rfl
                        have g3 : ((110 : Int) == 102) = false := rfl
                        go_wp2_with fail
                        refine hct.mono ?_
                        rintro e' w3 ⟨rfl, n3, rfl⟩
                        clear hct hlim
                        cases hv : leaf 110 (bs.drop q) with
                        | none =>
                          have HR : Hid (R = none) := HI.out.reject (HM hv)
                          have e : lenO (bs.drop q) none = -1 := rfl
                          rw [e]
                          clear hv HM
                          go_wp2
                          go_ret2
                          exact ⟨by rw [HR.out]; rfl, (below_drawn HB.out n3)⟩
                        | some y =>
                          have hyl := leaf_len hv
                          obtain ⟨m, hm1, hm2, hm3⟩ := place_of hq (leaf_drop hv) (Nat.le_of_lt hyl)
                          have e : lenO (bs.drop q) (some y) = (m : Int) := hm2
                          have HN : Hid (MI w.heap.size w bs L R (k + 1) 2 (q + m) stk (.slice av stk.length cv) (wr.drewN n3)) := HI.out.next hk (by rw [HM2 y hv, hm3]) hm1 (by omega) (show Stk _ _ _ _ from HI.out.hs) (by omega) HI.out.hall (below_drawn (Below.refl _ _) n3)
                          rw [e]
                          clear hv HM2 hm2 hm3 hyl e
                          go_wp2
                          go_roundw
                          case rel => exact ⟨k + 1, 2, q + m, stk, by go_num, by go_num, rfl, HN.out⟩
                          case measure => simp [intOf]; omega
                      · have hct : Calls Try.prog 33 #[.slice (adv (some ⟨b, off, none⟩) cap q) (bs.length - q) (cap - q)] wr _ := HCN.out
                        rw [← leaf_other (bs.drop q) h34 h116 h102 h110] at hct
                        have f116 : (c == 116) = false := beq_eq_false_iff_ne.2 h116
                        have f102 : (c == 102) = false := beq_eq_false_iff_ne.2 h102
                        have f110 : (c == 110) = false := beq_eq_false_iff_ne.2 h110
                        go_wp2_with fail
                        refine same_mono hct ?_
                        clear hct hlim
                        cases hv : leaf c (bs.drop q) with
                        | none =>
                          have HR : Hid (R = none) := HI.out.reject (HM hv)
                          have e : lenO (bs.drop q) none = -1 := rfl
                          rw [e]
                          clear hv HM
                          go_wp2
                          go_ret2
                          exact ⟨by rw [HR.out]; rfl, HB.out⟩
                        | some y =>
                          have hyl := leaf_len hv
                          obtain ⟨m, hm1, hm2, hm3⟩ := place_of hq (leaf_drop hv) (Nat.le_of_lt hyl)
                          have e : lenO (bs.drop q) (some y) = (m : Int) := hm2
                          have HN : Hid (MI w.heap.size w bs L R (k + 1) 2 (q + m) stk (.slice av stk.length cv) wr) := HI.out.next hk (by rw [HM2 y hv, hm3]) hm1 (by omega) (HI.out.hs) (by omega) HI.out.hall (Below.refl _ _)
                          rw [e]
                          clear hv HM2 hm2 hm3 hyl e
                          go_wp2
                          go_roundw
                          case rel => exact ⟨k + 1, 2, q + m, stk, by go_num, by go_num, rfl, HN.out⟩
                          case measure => simp [intOf]; omega
          · have HR : Hid (R = none) := HI.out.reject (by rw [List.drop_of_length_le (by omega)]; simp [mstep])
            clear hlim
            go_wp2
            go_ret2
            exact ⟨by rw [HR.out]; rfl, HB.out⟩
      · have hhr : Holds w.heap.size wr (adv (some ⟨b, off, none⟩) cap q) (bs.drop q) := Holds.drop (cap := cap) (Or.inr ⟨b, off, rfl, hbb, fun j hj => (HB.out.cell (by exact hbb)).trans (hcell.out j hj)⟩) q hcap
        have hlq : (bs.drop q).length = bs.length - q := List.length_drop
        have hct : Calls Try.prog 20 #[.slice (adv (some ⟨b, off, none⟩) cap q) (bs.length - q) (cap - q)] wr fun e w' => e = .returned (.int .i64 (qlen (bs.drop q))) ∧ w' = wr := by have := quoted_any (bs := bs.drop q) (cap - q) (by rw [hlq]; omega) hhr; rw [hlq] at this; exact this
        clear hhr hlq
        have hsl := run_from (some ⟨b, off, none⟩) bs.length cap q (by omega)
        go_wp2_with fail
        refine same_mono hct ?_
        rw [qlen_lenO]
        clear hct
        cases hv : strP (bs.drop q) with
        | none =>
          have HR : Hid (R = none) := HI.out.reject (by simp [mstep, hv])
          have e : lenO (bs.drop q) none = -1 := rfl
          rw [e]
          clear hv
          go_wp2
          go_ret2
          exact ⟨by rw [HR.out]; rfl, HB.out⟩
        | some y =>
          have hyl := strP_len hv
          obtain ⟨m, hm1, hm2, hm3⟩ := place_of hq (strP_drop hv) (Nat.le_of_lt hyl)
          have e : lenO (bs.drop q) (some y) = (m : Int) := hm2
          rw [e]
          by_cases hqm : q + m < bs.length
          · have hc2 : wr.cell? ⟨b, off + (q + m), none⟩ = some (.int .u8 (bs.getD (q + m) 0)) := (HB.out.cell (by exact hbb)).trans (hcell.out (q + m) hqm)
            have hdc := drop_cons hqm
            by_cases h58 : bs.getD (q + m) 0 = 58
            · have HN : Hid (MI w.heap.size w bs L R (k + 1) 0 (q + m + 1) stk (.slice av stk.length cv) wr) := HI.out.next hk (by
                  have e1 : needP [58] y = some (bs.drop (q + m + 1)) := by rw [hm3, hdc, h58]; simp [needP, starts]
                  simp [mstep, hv, e1]) (by omega) (by omega) HI.out.hs (by omega) HI.out.hall (Below.refl _ _)
              rw [h58] at hc2
              clear hv hm2 hm3 hyl e hdc h58
              go_wp2
              go_roundw
              case rel => exact ⟨k + 1, 0, q + m + 1, stk, by go_num, by go_num, rfl, HN.out⟩
              case measure => simp [intOf]; omega
            · have HR : Hid (R = none) := HI.out.reject (by
                  have e1 : needP [58] y = none := by rw [hm3, hdc]; simp [needP, starts]; simpa using h58
                  simp [mstep, hv, e1])
              generalize bs.getD (q + m) 0 = c2 at hc2 h58
              have h58' : (c2 != 58) = true := by rw [bne_iff_ne]; exact h58
              clear hv hm2 hm3 hyl e hdc h58
              go_wp2
              go_ret2
              exact ⟨by rw [HR.out]; rfl, HB.out⟩
          · have HR : Hid (R = none) := HI.out.reject (by
                have e1 : needP [58] y = none := by rw [hm3, List.drop_of_length_le (by omega)]; rfl
                simp [mstep, hv, e1])
            clear hv hm2 hm3 hyl e
            go_wp2
            go_ret2
            exact ⟨by rw [HR.out]; rfl, HB.out⟩
      · cases stk with
        | nil =>
          have HR : Hid (R = some (bs.drop q)) := HI.out.accept hk (by simp [mstep])
          have HU : Hid (usedO bs (some (bs.drop q)) = (q : Int)) := by show _ = _; simp only [usedO, List.length_drop]; omega
          go_wp2
          go_ret2
          exact ⟨by rw [HR.out, HU.out]; rfl, HB.out⟩
        | cons t tl =>
          obtain ⟨g, cv', hveq, hct, hcv, hcm, hstk⟩ := HI.out.hs.cons
          injection hveq with h1 h2 h3
          subst h1
          subst h3
          clear h2
          have HT : Hid (t = 93 ∨ t = 125) := HI.out.hall t (by simp)
          have HSK : Hid (Stk w.heap.size wr (.slice (some ⟨g, 0, none⟩) tl.length cv) tl) := hstk
          clear hstk
          unfold maxLen at hcm
          simp only [List.length_cons] at hstl
          by_cases hqb : q < bs.length
          · obtain ⟨c, hcv'⟩ : ∃ c, c = bs.getD q 0 := ⟨_, rfl⟩
            have hc1 : wr.cell? ⟨b, off + q, none⟩ = some (.int .u8 c) := by rw [hcv']; exact (HB.out.cell (by exact hbb)).trans (hcell.out q hqb)
            have HDC : Hid (bs.drop q = c :: bs.drop (q + 1)) := by show _ = _; rw [hcv']; exact drop_cons hqb
            clear hcv'
            by_cases hctop : c = t
            · subst hctop
              have hsl := run_upto (some ⟨g, 0, none⟩) (tl.length + 1) cv tl.length (by omega)
              have hadv : adv (some ⟨g, 0, none⟩) cv 0 = some ⟨g, 0, none⟩ := adv_at g 0 cv 0 (by omega)
              rw [hadv] at hsl
              have hsl2 := hsl
              rw [show ((tl.length : Nat) : Int) = ((tl.length : Nat) : Int) + 1 - 1 by omega] at hsl2
              have HN : Hid (MI w.heap.size w bs L R (k + 1) 2 (q + 1) tl (.slice (some ⟨g, 0, none⟩) tl.length cv) wr) := HI.out.next hk (by rw [HDC.out]; simp [mstep]) (by omega) (by omega) HSK.out (by simp; omega) (fun x hx => HI.out.hall x (by simp [hx])) (Below.refl _ _)
              clear hadv
              go_wp2
              go_roundw
              case rel => exact ⟨k + 1, 2, q + 1, tl, by go_num, by go_num, rfl, HN.out⟩
              case measure => simp [intOf]; omega
            · have hct' : (c == t) = false := beq_eq_false_iff_ne.2 hctop
              by_cases h44 : c = 44
              · subst h44
                rcases HT.out with rfl | rfl
                · have HN : Hid (MI w.heap.size w bs L R (k + 1) 0 (q + 1) (93 :: tl) (.slice (some ⟨g, 0, none⟩) (93 :: tl).length cv) wr) := HI.out.next hk (by rw [HDC.out]; simp [mstep]) (by omega) (by omega) HI.out.hs (by omega) HI.out.hall (Below.refl _ _)
                  clear hctop
                  go_wp2
                  go_roundw
                  case rel => exact ⟨k + 1, 0, q + 1, 93 :: tl, by go_num, by go_num, rfl, HN.out⟩
                  case measure => simp [intOf]; omega
                · have HN : Hid (MI w.heap.size w bs L R (k + 1) 1 (q + 1) (125 :: tl) (.slice (some ⟨g, 0, none⟩) (125 :: tl).length cv) wr) := HI.out.next hk (by rw [HDC.out]; simp [mstep]) (by omega) (by omega) HI.out.hs (by omega) HI.out.hall (Below.refl _ _)
                  clear hctop
                  go_wp2
                  go_roundw
                  case rel => exact ⟨k + 1, 1, q + 1, 125 :: tl, by go_num, by go_num, rfl, HN.out⟩
                  case measure => simp [intOf]; omega
              · have HR : Hid (R = none) := HI.out.reject (by rw [HDC.out]; simp [mstep, hctop, h44])
                have h44' : (c == 44) = false := beq_eq_false_iff_ne.2 h44
                clear hctop h44
                go_wp2
                go_ret2
                exact ⟨by rw [HR.out]; rfl, HB.out⟩
          · have HR : Hid (R = none) := HI.out.reject (by rw [List.drop_of_length_le (by omega)]; simp [mstep])
            go_wp2
            go_ret2
            exact ⟨by rw [HR.out]; rfl, HB.out⟩
    · have HR : Hid (R = none) := HI.out.over hk
      go_wp2
      go_ret2
      exact ⟨by rw [HR.out]; rfl, HB.out⟩
end Go.Proofs.Qxb6600744a
