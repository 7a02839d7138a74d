/-
  The walk of the cursor's value (31): arrays.
-/
import Derived.Test.Qxb6600744aValueLeaf
import Derived.Test.Qxb6600744aUintReads
namespace Go.Proofs.Qxb6600744a
open Go.RowKit

/-- The loops' measure: how much is left to a live cursor. -/
def mz (bc : Nat) (w : World) : Nat :=
  match w.cell? ⟨bc, 1, none⟩, w.cell? ⟨bc, 0, none⟩ with
  | some (.bool true), some (.slice _ n _) => n + 1
  | _, _ => 0

theorem mz_live {w : World} {bc : Nat} {cs : List Int} (h : Cur w bc cs true) : mz bc w = cs.length + 1 := by
  obtain ⟨a, cap, ha, _⟩ := h.s
  simp [mz, h.o, ha]
theorem mz_dead {w : World} {bc : Nat} {cs : List Int} (h : Cur w bc cs false) : mz bc w = 0 := by
  simp [mz, h.o]

def inInt (d : Int) : Prop := -9223372036854775808 ≤ d ∧ d ≤ 9223372036854775807
theorem wd_in {d : Int} (h : inInt d) : inInt (wd d) := by
  unfold inInt at h ⊢
  unfold wd
  split <;> omega
theorem wd_wrap {d : Int} (h : inInt d) : IntKind.i64.wrap (d + 1) = wd d := by
  unfold inInt at h
  rw [IntKind.wrap_i64]
  unfold wd
  split <;> omega

/-- What value does, at fuel f. -/
def ValueAt (f bc : Nat) : Prop := ∀ (d : Int) (bs : List Int) (w : World), Cur w bc bs true → 2 * bs.length + 1 ≤ f → inInt d →
  Calls Try.prog 31 #[.pointer (some ⟨bc, 0, none⟩), .int .i64 d] w fun e w' => e = .returned (.tuple #[]) ∧ CurO w' bc (rd f 0 d bs) ∧ Below bc w w'

theorem byt93 : byt { data := #[93] } = [93] := rfl
theorem byt44 : byt { data := #[44] } = [44] := rfl
theorem byt125 : byt { data := #[125] } = [125] := rfl
theorem byt58 : byt { data := #[58] } = [58] := rfl

/-- The loop's state. -/
def Live (t : Nat) (f : Nat) (d : Int) (R : Option (List Int)) (bc : Nat) (wr : World) : Prop :=
  ∃ g cs, 2 * cs.length + 2 ≤ g ∧ g ≤ f ∧ Cur wr bc cs true ∧ R = rd g t d cs
def Dead (R : Option (List Int)) (bc : Nat) (wr : World) : Prop := R = none ∧ ∃ cs, Cur wr bc cs false

set_option maxHeartbeats 3200000 in
theorem value_arr {w : World} {bc f : Nat} {bs : List Int} (d : Int) (h : Cur w bc bs true) (hd : (d == 32) = false) (hin : Hid (inInt d)) (hf : 2 * bs.length ≤ f) (hne : 0 < bs.length) (hc : bs.getD 0 0 = 91)
    (IH : Hid (∀ g, g < f → ValueAt g bc)) (R : Option (List Int)) (hR : Hid (R = rd f 1 d (bs.drop 1))) :
    Calls Try.prog 31 #[.pointer (some ⟨bc, 0, none⟩), .int .i64 d] w fun e w' => e = .returned (.tuple #[]) ∧ CurO w' bc R ∧ Below bc w w' := by
  obtain ⟨a, cap, ha, hh, hlc, hm⟩ := h.s
  have g1 := h.o
  have gf := h.f0
  have hz : ((bs.length : Int) == 0) = false := beq_eq_false_iff_ne.2 (by omega)
  rcases hh with rfl | ⟨b, off, rfl, hbb, hcell⟩
  · simp at hne
  have hc0 : w.cell? ⟨b, off, none⟩ = some (.int .u8 (bs.getD 0 0)) := hcell 0 hne
  rw [hc] at hc0
  have HCUT : Hid (Cur (w.setCell ⟨bc, 0, none⟩ (.slice (adv (some ⟨b, off, none⟩) cap 1) (bs.length - 1) (cap - 1))) bc (bs.drop 1) true) := h.cut ha (.inr ⟨b, off, rfl, hbb, hcell⟩) hlc hm 1
  have hsl := run_from (some ⟨b, off, none⟩) bs.length cap 1 (by omega)
  rw [show ((1 : Nat) : Int) = 1 from rfl] at hsl
  have hlen : (bs.drop 1).length = bs.length - 1 := by simp
  have HLEN : Hid ((bs.drop 1).length = bs.length - 1) := hlen
  clear hlen hcell hc h
  go_enter Try.func31, Try.ntmps31
  go_wp2_with fail
  clear hsl
  go_loopw [5] (fun v wr => ((v = .bool true ∧ Live 1 f d R bc wr) ∨ (v = .bool false ∧ Live 2 f d R bc wr) ∨ (v = .bool false ∧ Dead R bc wr)) ∧ Below bc w wr) (fun _ wr => mz bc wr)
  case atStart => exact ⟨.inl ⟨rfl, f, bs.drop 1, by rw [HLEN.out]; omega, Nat.le_refl _, HCUT.out, hR.out⟩, below_set _ _ _ _⟩
  case round =>
    obtain ⟨hst, hbel⟩ := hrel
    clear hc0 ha g1 gf HCUT hR HLEN
    have HB : Hid (Below bc w wr) := hbel
    clear hbel
    rcases hst with ⟨rfl, hl⟩ | ⟨rfl, hl⟩ | ⟨rfl, hl⟩
    · obtain ⟨g, cs, hg, hgf, hcur, hRe⟩ := hl
      have HR : Hid (R = rd g 1 d cs) := hRe
      clear hRe
      obtain ⟨n, rfl⟩ : ∃ n, g = n + 1 := ⟨g - 1, by omega⟩
      have go1 := hcur.o
      cases hs : starts [93] cs with
      | true =>
        have hlb : litB true [93] cs = true := by simp [litB, hs]
        have HE : Hid (R = some (litR true [93] cs)) := by
          show _ = _
          rw [HR.out, rd1, if_pos hs]
          simp [litR, hlb]
        go_wp2_with fail
        refine (lit_any hcur _).mono ?_
        rintro e w1 ⟨rfl, hc1, hb1⟩
        rw [byt93] at hc1 ⊢
        rw [hlb]
        go_wp2_with fail
        go_end0
        exact ⟨rfl, by rw [HE.out]; exact hc1, HB.out.trans hb1⟩
      | false =>
        have hlb : litB true [93] cs = false := by simp [litB, hs]
        have hlr : litR true [93] cs = cs := by simp [litR, hlb]
        have hwd := wd_wrap hin.out
        have hdi := wd_in hin.out
        have HE : Hid (R = (rd n 0 (wd d) cs).bind (rd n 2 d)) := by
          show _ = _
          rw [HR.out, rd1, if_neg (by rw [hs]; decide)]
        go_wp2_with fail
        refine (lit_any hcur _).mono ?_
        rintro e w1 ⟨rfl, hc1, hb1⟩
        rw [byt93] at hc1 ⊢
        rw [hlr] at hc1
        rw [hlb]
        go_wp2_with fail
        refine (IH.out n (by omega) (wd d) cs w1 hc1 (by omega) hdi).mono ?_
        rintro e w9 ⟨rfl, hc9, hb9⟩
        have hbn : Below bc w w9 := HB.out.trans (hb1.trans hb9)
        clear hc1 hb1 hb9 HB
        cases hv : rd n 0 (wd d) cs with
        | none =>
          rw [hv] at HE hc9
          obtain ⟨r, hc9⟩ := hc9
          have HM : Hid (mz bc w9 < mz bc wr) := by show _ < _; rw [mz_dead hc9, mz_live hcur]; omega
          have HN : Hid (Dead R bc w9) := ⟨HE.out, r, hc9⟩
          clear hc9 hv
          go_wp2_with fail
          go_roundw
          case rel => exact ⟨.inr (.inr ⟨rfl, HN.out⟩), hbn⟩
          case measure => exact HM.out
        | some r =>
          rw [hv] at HE hc9
          have hrl := rd_len _ _ _ _ _ hv
          have hc9 : Cur w9 bc r true := hc9
          have HM : Hid (mz bc w9 < mz bc wr) := by show _ < _; rw [mz_live hc9, mz_live hcur]; omega
          have HN : Hid (Live 2 f d R bc w9) := ⟨n, r, by omega, by omega, hc9, HE.out⟩
          clear hc9 hv hrl
          go_wp2_with fail
          go_roundw
          case rel => exact ⟨.inr (.inl ⟨rfl, HN.out⟩), hbn⟩
          case measure => exact HM.out
    · obtain ⟨g, cs, hg, hgf, hcur, hRe⟩ := hl
      have HR : Hid (R = rd g 2 d cs) := hRe
      clear hRe
      obtain ⟨n, rfl⟩ : ∃ n, g = n + 1 := ⟨g - 1, by omega⟩
      have go1 := hcur.o
      cases hs : starts [93] cs with
      | true =>
        have hlb : litB true [93] cs = true := by simp [litB, hs]
        have HE : Hid (R = some (litR true [93] cs)) := by
          show _ = _
          rw [HR.out, rd2, if_pos hs]
          simp [litR, hlb]
        go_wp2_with fail
        refine (lit_any hcur _).mono ?_
        rintro e w1 ⟨rfl, hc1, hb1⟩
        rw [byt93] at hc1 ⊢
        rw [hlb]
        go_wp2_with fail
        go_end0
        exact ⟨rfl, by rw [HE.out]; exact hc1, HB.out.trans hb1⟩
      | false =>
        have hlb : litB true [93] cs = false := by simp [litB, hs]
        have hlr : litR true [93] cs = cs := by simp [litR, hlb]
        have hwd := wd_wrap hin.out
        have hdi := wd_in hin.out
        have HE0 : Hid (R = (needP [44] cs).bind fun r => (rd n 0 (wd d) r).bind (rd n 2 d)) := by
          show _ = _
          rw [HR.out, rd2, if_neg (by rw [hs]; decide)]
        go_wp2_with fail
        refine (lit_any hcur _).mono ?_
        rintro e w1 ⟨rfl, hc1, hb1⟩
        rw [byt93] at hc1 ⊢
        rw [hlr] at hc1
        rw [hlb]
        clear hlb hlr
        go_wp2_with fail
        refine (need_any hc1 _).mono ?_
        rintro e w2 ⟨rfl, hc2, hb2⟩
        rw [byt44] at hc2
        have hbn2 : Below bc w w2 := HB.out.trans (hb1.trans hb2)
        clear hc1 hb1 hb2 HB
        cases hs2 : starts [44] cs with
        | true =>
          have hlb : litB true [44] cs = true := by simp [litB, hs2]
          have hlr : litR true [44] cs = cs.drop 1 := by simp [litR, hlb]
          have HE : Hid (R = (rd n 0 (wd d) (cs.drop 1)).bind (rd n 2 d)) := by
            show _ = _
            rw [HE0.out]
            simp [needP, hs2]
          rw [hlb, hlr] at hc2
          have hl2 := List.length_drop (i := 1) (l := cs)
          have HL2 : Hid ((cs.drop 1).length = cs.length - 1) := hl2
          clear hlb hlr HE0 hl2
          go_wp2_with fail
          refine (IH.out n (by omega) (wd d) (cs.drop 1) w2 hc2 (by rw [HL2.out]; omega) hdi).mono ?_
          rintro e w9 ⟨rfl, hc9, hb9⟩
          have hbn : Below bc w w9 := hbn2.trans hb9
          clear hc2 hb9 hbn2
          cases hv : rd n 0 (wd d) (cs.drop 1) with
          | none =>
            rw [hv] at HE hc9
            obtain ⟨r, hc9⟩ := hc9
            have HM : Hid (mz bc w9 < mz bc wr) := by show _ < _; rw [mz_dead hc9, mz_live hcur]; omega
            have HN : Hid (Dead R bc w9) := ⟨HE.out, r, hc9⟩
            clear hc9 hv
            go_wp2_with fail
            go_roundw
            case rel => exact ⟨.inr (.inr ⟨rfl, HN.out⟩), hbn⟩
            case measure => exact HM.out
          | some r =>
            rw [hv] at HE hc9
            have hrl := rd_len _ _ _ _ _ hv
            have hc9 : Cur w9 bc r true := hc9
            have HM : Hid (mz bc w9 < mz bc wr) := by show _ < _; rw [mz_live hc9, mz_live hcur]; have := List.length_drop (i := 1) (l := cs); omega
            have HN : Hid (Live 2 f d R bc w9) := ⟨n, r, by have := List.length_drop (i := 1) (l := cs); omega, by omega, hc9, HE.out⟩
            clear hc9 hv hrl
            go_wp2_with fail
            go_roundw
            case rel => exact ⟨.inr (.inl ⟨rfl, HN.out⟩), hbn⟩
            case measure => exact HM.out
        | false =>
          have hlb : litB true [44] cs = false := by simp [litB, hs2]
          have HE : Hid (R = none) := by
            show _ = _
            rw [HE0.out]
            simp [needP, hs2]
          rw [hlb] at hc2
          clear hlb HE0
          go_wp2_with fail
          refine (value_dead _ hc2).mono ?_
          rintro e w9 ⟨rfl, hc9, hb9⟩
          have hbn : Below bc w w9 := hbn2.trans hb9
          have HM : Hid (mz bc w9 < mz bc wr) := by show _ < _; rw [mz_dead hc9, mz_live hcur]; omega
          have HN : Hid (Dead R bc w9) := ⟨HE.out, _, hc9⟩
          clear hc2 hc9 hb9 hbn2
          go_wp2_with fail
          go_roundw
          case rel => exact ⟨.inr (.inr ⟨rfl, HN.out⟩), hbn⟩
          case measure => exact HM.out
    · obtain ⟨hRn, cs, hcur⟩ := hl
      have HR : Hid (R = none) := hRn
      clear hRn
      have go1 := hcur.o
      go_wp2_with fail
      go_end0
      exact ⟨rfl, by rw [HR.out]; exact ⟨cs, hcur⟩, HB.out⟩
end Go.Proofs.Qxb6600744a
