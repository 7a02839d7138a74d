/-
  The walk of the cursor's value (31): objects.
-/
import Derived.Test.Qxb6600744aValueArr
namespace Go.Proofs.Qxb6600744a
open Go.RowKit

theorem strOk_dead (bs : List Int) : strOk false bs = false := by simp [strOk, litB]
theorem litB_dead (s bs : List Int) : litB false s bs = false := by simp [litB]

set_option maxHeartbeats 6400000 in
theorem value_obj {w : World} {bc f : Nat} {bs : List Int} (d : Int) (h : Cur w bc bs true) (hd : (d == 32) = false) (hin : Hid (inInt d)) (hf : 2 * bs.length ≤ f) (hne : 0 < bs.length) (hc : bs.getD 0 0 = 123)
    (IH : Hid (∀ g, g < f → ValueAt g bc)) (R : Option (List Int)) (hR : Hid (R = rd f 3 d (bs.drop 1))) :
    Calls Try.prog 31 #[.pointer (some ⟨bc, 0, none⟩), .int .i64 d] w fun e w' => e = .returned (.tuple #[]) ∧ CurO w' bc R ∧ Below bc w w' := by
  obtain ⟨a, cap, ha, hh, hlc, hm⟩ := h.s
  have g1 := h.o
  have gf := h.f0
  have hz : ((bs.length : Int) == 0) = false := beq_eq_false_iff_ne.2 (by omega)
  rcases hh with rfl | ⟨b, off, rfl, hbb, hcell⟩
  · simp at hne
  have hc0 : w.cell? ⟨b, off, none⟩ = some (.int .u8 (bs.getD 0 0)) := hcell 0 hne
  rw [hc] at hc0
  have HCUT : Hid (Cur (w.setCell ⟨bc, 0, none⟩ (.slice (adv (some ⟨b, off, none⟩) cap 1) (bs.length - 1) (cap - 1))) bc (bs.drop 1) true) := h.cut ha (.inr ⟨b, off, rfl, hbb, hcell⟩) hlc hm 1
  have hsl := run_from (some ⟨b, off, none⟩) bs.length cap 1 (by omega)
  rw [show ((1 : Nat) : Int) = 1 from rfl] at hsl
  have hlen : (bs.drop 1).length = bs.length - 1 := by simp
  have HLEN : Hid ((bs.drop 1).length = bs.length - 1) := hlen
  clear hlen hcell hc h
  go_enter Try.func31, Try.ntmps31
  go_wp2_with fail
  clear hsl
  go_loopw [4] (fun v wr => ((v = .bool true ∧ Live 3 f d R bc wr) ∨ (v = .bool false ∧ Live 4 f d R bc wr) ∨ (v = .bool false ∧ Dead R bc wr)) ∧ Below bc w wr) (fun _ wr => mz bc wr)
  case atStart => exact ⟨.inl ⟨rfl, f, bs.drop 1, by rw [HLEN.out]; omega, Nat.le_refl _, HCUT.out, hR.out⟩, below_set _ _ _ _⟩
  case round =>
    obtain ⟨hst, hbel⟩ := hrel
    clear hc0 ha g1 gf HCUT hR HLEN
    have HB : Hid (Below bc w wr) := hbel
    clear hbel
    rcases hst with ⟨rfl, hl⟩ | ⟨rfl, hl⟩ | ⟨rfl, hl⟩
    · obtain ⟨g, cs, hg, hgf, hcur, hRe⟩ := hl
      have HR : Hid (R = rd g 3 d cs) := hRe
      clear hRe
      obtain ⟨n, rfl⟩ : ∃ n, g = n + 1 := ⟨g - 1, by omega⟩
      have go1 := hcur.o
      cases hs : starts [125] cs with
      | true =>
        have hlb : litB true [125] cs = true := by simp [litB, hs]
        have HE : Hid (R = some (litR true [125] cs)) := by
          show _ = _
          rw [HR.out, rd3, if_pos hs]
          simp [litR, hlb]
        go_wp2_with fail
        refine (lit_any hcur _).mono ?_
        rintro e w1 ⟨rfl, hc1, hb1⟩
        rw [byt125] at hc1 ⊢
        rw [hlb]
        go_wp2_with fail
        go_end0
        exact ⟨rfl, by rw [HE.out]; exact hc1, HB.out.trans hb1⟩
      | false =>
        have hlb : litB true [125] cs = false := by simp [litB, hs]
        have hlr : litR true [125] cs = cs := by simp [litR, hlb]
        have hwd := wd_wrap hin.out
        have hdi := wd_in hin.out
        have HE0 : Hid (R = (strP cs).bind fun r => (needP [58] r).bind fun r => (rd n 0 (wd d) r).bind (rd n 4 d)) := by
          show _ = _
          rw [HR.out, rd3, if_neg (by rw [hs]; decide)]
        go_wp2_with fail
        refine (lit_any hcur _).mono ?_
        rintro e w2 ⟨rfl, hc2, hbb2⟩
        rw [byt125] at hc2 ⊢
        rw [hlr] at hc2
        rw [hlb]
        have hb2 : Below bc w w2 := HB.out.trans hbb2
        have HCS : Hid (cs.length ≤ cs.length) := Nat.le_refl cs.length
        clear hlb hlr hbb2 HB hs HR
        go_wp2_with fail
        refine (str_any hc2).mono ?_
        rintro e w3 ⟨rfl, hc3, hbb3⟩
        have hb3 : Below bc w w3 := hb2.trans hbb3
        clear hc2 hb2 hbb3
        cases hs3 : strOk true cs with
        | false =>
          have HE : Hid (R = none) := by
            show _ = _
            rw [HE0.out]
            simp [strP, hs3]
          rw [hs3] at hc3
          clear hs3 HE0 HCS
          go_wp2_with fail
          refine (need_any hc3 _).mono ?_
          rintro e w4 ⟨rfl, hc4, hbb4⟩
          rw [litB_dead] at hc4
          have hb4 : Below bc w w4 := hb3.trans hbb4
          clear hc3 hb3 hbb4
          go_wp2_with fail
          refine (value_dead _ hc4).mono ?_
          rintro e w9 ⟨rfl, hc9, hb9⟩
          have hbn : Below bc w w9 := hb4.trans hb9
          have HM : Hid (mz bc w9 < mz bc wr) := by show _ < _; rw [mz_dead hc9, mz_live hcur]; omega
          have HN : Hid (Dead R bc w9) := ⟨HE.out, _, hc9⟩
          clear hc4 hc9 hb9 hb4
          go_wp2_with fail
          go_roundw
          case rel => exact ⟨.inr (.inr ⟨rfl, HN.out⟩), hbn⟩
          case measure => exact HM.out
        | true =>
          have hsp : strP cs = some (strR true cs) := by simp [strP, hs3]
          have hsl := strP_len hsp
          have HE1 : Hid (R = (needP [58] (strR true cs)).bind fun r => (rd n 0 (wd d) r).bind (rd n 4 d)) := by
            show _ = _
            rw [HE0.out, hsp]
            rfl
          rw [hs3] at hc3
          have HC3 : Hid ((strR true cs).length < cs.length) := by have := HCS.out; show _ < _; omega
          clear hs3 HE0 HCS hsp hsl
          generalize strR true cs = r3 at *
          go_wp2_with fail
          refine (need_any hc3 _).mono ?_
          rintro e w4 ⟨rfl, hc4, hbb4⟩
          rw [byt58] at hc4
          have hb4 : Below bc w w4 := hb3.trans hbb4
          clear hc3 hb3 hbb4
          cases hs4 : starts [58] r3 with
          | false =>
            have hlb : litB true [58] r3 = false := by simp [litB, hs4]
            have HE : Hid (R = none) := by
              show _ = _
              rw [HE1.out]
              simp [needP, hs4]
            rw [hlb] at hc4
            clear hlb HE1 HC3 hs4
            go_wp2_with fail
            refine (value_dead _ hc4).mono ?_
            rintro e w9 ⟨rfl, hc9, hb9⟩
            have hbn : Below bc w w9 := hb4.trans hb9
            have HM : Hid (mz bc w9 < mz bc wr) := by show _ < _; rw [mz_dead hc9, mz_live hcur]; omega
            have HN : Hid (Dead R bc w9) := ⟨HE.out, _, hc9⟩
            clear hc4 hc9 hb9 hb4
            go_wp2_with fail
            go_roundw
            case rel => exact ⟨.inr (.inr ⟨rfl, HN.out⟩), hbn⟩
            case measure => exact HM.out
          | true =>
            have hlb : litB true [58] r3 = true := by simp [litB, hs4]
            have hlr : litR true [58] r3 = r3.drop 1 := by simp [litR, hlb]
            have HE : Hid (R = (rd n 0 (wd d) (r3.drop 1)).bind (rd n 4 d)) := by
              show _ = _
              rw [HE1.out]
              simp [needP, hs4]
            rw [hlb, hlr] at hc4
            have HC4 : Hid ((r3.drop 1).length < cs.length) := by have := HC3.out; show _ < _; rw [List.length_drop]; omega
            clear hlb hlr HE1 HC3 hs4
            generalize r3.drop 1 = r4 at *
            go_wp2_with fail
            refine (IH.out n (by omega) (wd d) r4 w4 hc4 (by have := HC4.out; omega) hdi).mono ?_
            rintro e w9 ⟨rfl, hc9, hb9⟩
            have hbn : Below bc w w9 := hb4.trans hb9
            clear hc4 hb9 hb4
            cases hv : rd n 0 (wd d) r4 with
            | none =>
              rw [hv] at HE hc9
              obtain ⟨r, hc9⟩ := hc9
              have HM : Hid (mz bc w9 < mz bc wr) := by show _ < _; rw [mz_dead hc9, mz_live hcur]; omega
              have HN : Hid (Dead R bc w9) := ⟨HE.out, r, hc9⟩
              clear hc9 hv
              go_wp2_with fail
              go_roundw
              case rel => exact ⟨.inr (.inr ⟨rfl, HN.out⟩), hbn⟩
              case measure => exact HM.out
            | some r =>
              rw [hv] at HE hc9
              have hrl := rd_len _ _ _ _ _ hv
              have hc9 : Cur w9 bc r true := hc9
              have HM : Hid (mz bc w9 < mz bc wr) := by show _ < _; rw [mz_live hc9, mz_live hcur]; have := HC4.out; omega
              have HN : Hid (Live 4 f d R bc w9) := ⟨n, r, by have := HC4.out; omega, by omega, hc9, HE.out⟩
              clear hc9 hv hrl
              go_wp2_with fail
              go_roundw
              case rel => exact ⟨.inr (.inl ⟨rfl, HN.out⟩), hbn⟩
              case measure => exact HM.out
    · obtain ⟨g, cs, hg, hgf, hcur, hRe⟩ := hl
      have HR : Hid (R = rd g 4 d cs) := hRe
      clear hRe
      obtain ⟨n, rfl⟩ : ∃ n, g = n + 1 := ⟨g - 1, by omega⟩
      have go1 := hcur.o
      cases hs : starts [125] cs with
      | true =>
        have hlb : litB true [125] cs = true := by simp [litB, hs]
        have HE : Hid (R = some (litR true [125] cs)) := by
          show _ = _
          rw [HR.out, rd4, if_pos hs]
          simp [litR, hlb]
        go_wp2_with fail
        refine (lit_any hcur _).mono ?_
        rintro e w1 ⟨rfl, hc1, hb1⟩
        rw [byt125] at hc1 ⊢
        rw [hlb]
        go_wp2_with fail
        go_end0
        exact ⟨rfl, by rw [HE.out]; exact hc1, HB.out.trans hb1⟩
      | false =>
        have hlb : litB true [125] cs = false := by simp [litB, hs]
        have hlr : litR true [125] cs = cs := by simp [litR, hlb]
        have hwd := wd_wrap hin.out
        have hdi := wd_in hin.out
        have HEN : Hid (R = (needP [44] cs).bind fun r => (strP r).bind fun r => (needP [58] r).bind fun r => (rd n 0 (wd d) r).bind (rd n 4 d)) := by
          show _ = _
          rw [HR.out, rd4, if_neg (by rw [hs]; decide)]
        go_wp2_with fail
        refine (lit_any hcur _).mono ?_
        rintro e w1 ⟨rfl, hc1, hbb1⟩
        rw [byt125] at hc1 ⊢
        rw [hlr] at hc1
        rw [hlb]
        have hb1 : Below bc w w1 := HB.out.trans hbb1
        clear hlb hlr hbb1 HB hs HR
        go_wp2_with fail
        refine (need_any hc1 _).mono ?_
        rintro e w2 ⟨rfl, hc2, hbb2⟩
        rw [byt44] at hc2
        have hb2 : Below bc w w2 := hb1.trans hbb2
        clear hc1 hb1 hbb2
        cases hs2 : starts [44] cs with
        | false =>
          have hlb : litB true [44] cs = false := by simp [litB, hs2]
          have HE : Hid (R = none) := by
            show _ = _
            rw [HEN.out]
            simp [needP, hs2]
          rw [hlb] at hc2
          clear hlb HEN hs2
          go_wp2_with fail
          refine (str_any hc2).mono ?_
          rintro e w3 ⟨rfl, hc3, hbb3⟩
          rw [strOk_dead] at hc3
          have hb3 : Below bc w w3 := hb2.trans hbb3
          clear hc2 hb2 hbb3
          go_wp2_with fail
          refine (need_any hc3 _).mono ?_
          rintro e w4 ⟨rfl, hc4, hbb4⟩
          rw [litB_dead] at hc4
          have hb4 : Below bc w w4 := hb3.trans hbb4
          clear hc3 hb3 hbb4
          go_wp2_with fail
          refine (value_dead _ hc4).mono ?_
          rintro e w9 ⟨rfl, hc9, hb9⟩
          have hbn : Below bc w w9 := hb4.trans hb9
          have HM : Hid (mz bc w9 < mz bc wr) := by show _ < _; rw [mz_dead hc9, mz_live hcur]; omega
          have HN : Hid (Dead R bc w9) := ⟨HE.out, _, hc9⟩
          clear hc4 hc9 hb9 hb4
          go_wp2_with fail
          go_roundw
          case rel => exact ⟨.inr (.inr ⟨rfl, HN.out⟩), hbn⟩
          case measure => exact HM.out
        | true =>
          have hlb : litB true [44] cs = true := by simp [litB, hs2]
          have hlr : litR true [44] cs = cs.drop 1 := by simp [litR, hlb]
          have HE0 : Hid (R = (strP (cs.drop 1)).bind fun r => (needP [58] r).bind fun r => (rd n 0 (wd d) r).bind (rd n 4 d)) := by
            show _ = _
            rw [HEN.out]
            simp [needP, hs2]
          rw [hlb, hlr] at hc2
          have HCS : Hid ((cs.drop 1).length ≤ cs.length) := by show _ ≤ _; rw [List.length_drop]; omega
          clear hlb hlr HEN hs2
          generalize cs.drop 1 = c2 at *
          go_wp2_with fail
          refine (str_any hc2).mono ?_
          rintro e w3 ⟨rfl, hc3, hbb3⟩
          have hb3 : Below bc w w3 := hb2.trans hbb3
          clear hc2 hb2 hbb3
          cases hs3 : strOk true c2 with
          | false =>
            have HE : Hid (R = none) := by
              show _ = _
              rw [HE0.out]
              simp [strP, hs3]
            rw [hs3] at hc3
            clear hs3 HE0 HCS
            go_wp2_with fail
            refine (need_any hc3 _).mono ?_
            rintro e w4 ⟨rfl, hc4, hbb4⟩
            rw [litB_dead] at hc4
            have hb4 : Below bc w w4 := hb3.trans hbb4
            clear hc3 hb3 hbb4
            go_wp2_with fail
            refine (value_dead _ hc4).mono ?_
            rintro e w9 ⟨rfl, hc9, hb9⟩
            have hbn : Below bc w w9 := hb4.trans hb9
            have HM : Hid (mz bc w9 < mz bc wr) := by show _ < _; rw [mz_dead hc9, mz_live hcur]; omega
            have HN : Hid (Dead R bc w9) := ⟨HE.out, _, hc9⟩
            clear hc4 hc9 hb9 hb4
            go_wp2_with fail
            go_roundw
            case rel => exact ⟨.inr (.inr ⟨rfl, HN.out⟩), hbn⟩
            case measure => exact HM.out
          | true =>
            have hsp : strP c2 = some (strR true c2) := by simp [strP, hs3]
            have hsl := strP_len hsp
            have HE1 : Hid (R = (needP [58] (strR true c2)).bind fun r => (rd n 0 (wd d) r).bind (rd n 4 d)) := by
              show _ = _
              rw [HE0.out, hsp]
              rfl
            rw [hs3] at hc3
            have HC3 : Hid ((strR true c2).length < cs.length) := by have := HCS.out; show _ < _; omega
            clear hs3 HE0 HCS hsp hsl
            generalize strR true c2 = r3 at *
            go_wp2_with fail
            refine (need_any hc3 _).mono ?_
            rintro e w4 ⟨rfl, hc4, hbb4⟩
            rw [byt58] at hc4
            have hb4 : Below bc w w4 := hb3.trans hbb4
            clear hc3 hb3 hbb4
            cases hs4 : starts [58] r3 with
            | false =>
              have hlb : litB true [58] r3 = false := by simp [litB, hs4]
              have HE : Hid (R = none) := by
                show _ = _
                rw [HE1.out]
                simp [needP, hs4]
              rw [hlb] at hc4
              clear hlb HE1 HC3 hs4
              go_wp2_with fail
              refine (value_dead _ hc4).mono ?_
              rintro e w9 ⟨rfl, hc9, hb9⟩
              have hbn : Below bc w w9 := hb4.trans hb9
              have HM : Hid (mz bc w9 < mz bc wr) := by show _ < _; rw [mz_dead hc9, mz_live hcur]; omega
              have HN : Hid (Dead R bc w9) := ⟨HE.out, _, hc9⟩
              clear hc4 hc9 hb9 hb4
              go_wp2_with fail
              go_roundw
              case rel => exact ⟨.inr (.inr ⟨rfl, HN.out⟩), hbn⟩
              case measure => exact HM.out
            | true =>
              have hlb : litB true [58] r3 = true := by simp [litB, hs4]
              have hlr : litR true [58] r3 = r3.drop 1 := by simp [litR, hlb]
              have HE : Hid (R = (rd n 0 (wd d) (r3.drop 1)).bind (rd n 4 d)) := by
                show _ = _
                rw [HE1.out]
                simp [needP, hs4]
              rw [hlb, hlr] at hc4
              have HC4 : Hid ((r3.drop 1).length < cs.length) := by have := HC3.out; show _ < _; rw [List.length_drop]; omega
              clear hlb hlr HE1 HC3 hs4
              generalize r3.drop 1 = r4 at *
              go_wp2_with fail
              refine (IH.out n (by omega) (wd d) r4 w4 hc4 (by have := HC4.out; omega) hdi).mono ?_
              rintro e w9 ⟨rfl, hc9, hb9⟩
              have hbn : Below bc w w9 := hb4.trans hb9
              clear hc4 hb9 hb4
              cases hv : rd n 0 (wd d) r4 with
              | none =>
                rw [hv] at HE hc9
                obtain ⟨r, hc9⟩ := hc9
                have HM : Hid (mz bc w9 < mz bc wr) := by show _ < _; rw [mz_dead hc9, mz_live hcur]; omega
                have HN : Hid (Dead R bc w9) := ⟨HE.out, r, hc9⟩
                clear hc9 hv
                go_wp2_with fail
                go_roundw
                case rel => exact ⟨.inr (.inr ⟨rfl, HN.out⟩), hbn⟩
                case measure => exact HM.out
              | some r =>
                rw [hv] at HE hc9
                have hrl := rd_len _ _ _ _ _ hv
                have hc9 : Cur w9 bc r true := hc9
                have HM : Hid (mz bc w9 < mz bc wr) := by show _ < _; rw [mz_live hc9, mz_live hcur]; have := HC4.out; omega
                have HN : Hid (Live 4 f d R bc w9) := ⟨n, r, by have := HC4.out; omega, by omega, hc9, HE.out⟩
                clear hc9 hv hrl
                go_wp2_with fail
                go_roundw
                case rel => exact ⟨.inr (.inl ⟨rfl, HN.out⟩), hbn⟩
                case measure => exact HM.out
    · obtain ⟨hRn, cs, hcur⟩ := hl
      have HR : Hid (R = none) := hRn
      clear hRn
      have go1 := hcur.o
      go_wp2_with fail
      go_end0
      exact ⟨rfl, by rw [HR.out]; exact ⟨cs, hcur⟩, HB.out⟩
end Go.Proofs.Qxb6600744a
