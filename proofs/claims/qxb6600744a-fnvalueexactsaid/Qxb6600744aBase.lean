/-
  Memory of a byte slice ('Holds'), of the cursor ('Cur'), and the walks of the cursor's 'lit' (34) and 'need' (35).
-/
import Derived.Test.Qxb6600744aRows
import Derived.WalkKit
import Derived.WalkSpells
import Derived.ProofKit
import Derived.Below
import Derived.Laws.BytesArg
namespace Go.Proofs.Qxb6600744a
open Go.RowKit

def Bts (bs : List Int) : Prop := ∀ x ∈ bs, 0 ≤ x ∧ x ≤ 255
theorem Bts.drop {bs : List Int} (h : Bts bs) (n : Nat) : Bts (bs.drop n) := fun x hx => h x (List.mem_of_mem_drop hx)
theorem Bts.take {bs : List Int} (h : Bts bs) (n : Nat) : Bts (bs.take n) := fun x hx => h x (List.mem_of_mem_take hx)
theorem Bts.app {cs bs : List Int} (h : Bts cs) (k : Bts bs) : Bts (cs ++ bs) := fun x hx => by
  rcases List.mem_append.1 hx with h1 | h1
  · exact h x h1
  · exact k x h1
theorem Bts.at {bs : List Int} (h : Bts bs) (k : Nat) : 0 ≤ bs.getD k 0 ∧ bs.getD k 0 ≤ 255 := by
  by_cases hk : k < bs.length
  · have := h bs[k] (List.getElem_mem hk)
    simpa [List.getD, List.getElem?_eq_getElem hk] using this
  · simp [List.getD, List.getElem?_eq_none (Nat.le_of_not_lt hk)]

/-- The bytes of a string, as numbers. -/
def byt (S : ByteArray) : List Int := S.data.toList.map fun u => (u.toNat : Int)
theorem byt_length (S : ByteArray) : (byt S).length = S.size := by simp [byt]
theorem byt_bts (S : ByteArray) : Bts (byt S) := by
  intro x hx
  simp only [byt, List.mem_map] at hx
  obtain ⟨u, _, rfl⟩ := hx
  have := u.toNat_lt
  omega
theorem byt_strOfNums {xs : List Int} (h : Bts xs) : byt (strOfNums xs) = xs := by
  unfold byt
  rw [strOfNums_data, List.map_map]
  conv => rhs; rw [← List.map_id xs]
  apply List.map_congr_left
  intro x hx
  have := h x hx
  have e : x.toNat % 256 = x.toNat := Nat.mod_eq_of_lt (by omega)
  simp [e]
  omega
theorem strOfNums_byt (S : ByteArray) : strOfNums (byt S) = S := by
  apply ByteArray.ext
  apply Array.toList_inj.1
  rw [strOfNums_data]
  unfold byt
  rw [List.map_map]
  conv => rhs; rw [← List.map_id S.data.toList]
  apply List.map_congr_left
  intro x _
  simp
theorem str_eq {S T : ByteArray} : (S.toList == T.toList) = decide (byt S = byt T) := by
  by_cases h : byt S = byt T
  · have : S = T := by rw [← strOfNums_byt S, h, strOfNums_byt]
    subst this
    simp
  · have : S.toList ≠ T.toList := by
      intro e
      apply h
      unfold byt
      rw [← ByteArray.toList_eq, ← ByteArray.toList_eq, e]
    simp [h, this]

/-- The slice that begins at 'a' holds the bytes bs, below block B. -/
def Holds (B : Nat) (w : World) (a : Option Addr) (bs : List Int) : Prop :=
  bs = [] ∨ ∃ b off, a = some ⟨b, off, none⟩ ∧ b < B ∧ ∀ k, k < bs.length → w.cell? ⟨b, off + k, none⟩ = some (.int .u8 (bs.getD k 0))

/-- The address of 's[n:]'. -/
def adv (a : Option Addr) (cap n : Nat) : Option Addr := if cap = n then a else a.map (·.add (n * 1))

theorem adv_at (b off cap n : Nat) (h : n < cap) : adv (some ⟨b, off, none⟩) cap n = some ⟨b, off + n, none⟩ := by
  unfold adv
  rw [if_neg (by omega)]
  simp [Go.WideShapes.add_plain]

theorem Holds.drop {B : Nat} {w : World} {a : Option Addr} {bs : List Int} {cap : Nat} (h : Holds B w a bs) (n : Nat) (hc : bs.length ≤ cap) : Holds B w (adv a cap n) (bs.drop n) := by
  rcases h with rfl | ⟨b, off, rfl, hb, hk⟩
  · exact .inl (by simp)
  · by_cases hn : n < bs.length
    · refine .inr ⟨b, off + n, adv_at _ _ _ _ (by omega), hb, fun k h => ?_⟩
      rw [List.length_drop] at h
      rw [Nat.add_assoc, hk (n + k) (by omega)]
      simp [List.getD]
    · exact .inl (by simp; omega)

theorem Holds.take {B : Nat} {w : World} {a : Option Addr} {bs : List Int} {cap : Nat} (h : Holds B w a bs) (n : Nat) (hc : bs.length ≤ cap) : Holds B w (adv a cap 0) (bs.take n) := by
  rcases h with rfl | ⟨b, off, rfl, hb, hk⟩
  · exact .inl (by simp)
  · by_cases hn : 0 < bs.length
    · refine .inr ⟨b, off, adv_at _ _ _ _ (by omega), hb, fun k h => ?_⟩
      rw [List.length_take] at h
      rw [hk k (by omega)]
      simp [List.getD, show k < n by omega]
    · have : bs = [] := List.length_eq_zero_iff.1 (by omega)
      exact .inl (by simp [this])

theorem Holds.mono {B B' : Nat} {w : World} {a : Option Addr} {bs : List Int} (h : Holds B w a bs) (hB : B ≤ B') : Holds B' w a bs := by
  rcases h with rfl | ⟨b, off, rfl, hb, hk⟩
  · exact .inl rfl
  · exact .inr ⟨b, off, rfl, by omega, hk⟩

theorem Holds.below {B : Nat} {w w' : World} {a : Option Addr} {bs : List Int} (h : Holds B w a bs) (hb : Below B w w') : Holds B w' a bs := by
  rcases h with rfl | ⟨b, off, rfl, hlt, hk⟩
  · exact .inl rfl
  · exact .inr ⟨b, off, rfl, hlt, fun k h => by rw [hb.cell (by exact hlt)]; exact hk k h⟩

/-- The cursor at block bc: the bytes yet to be read, and whether it is live. -/
structure Cur (w : World) (bc : Nat) (bs : List Int) (ok : Bool) : Prop where
  s : ∃ a cap, w.cell? ⟨bc, 0, none⟩ = some (.slice a bs.length cap) ∧ Holds bc w a bs ∧ bs.length ≤ cap ∧ cap ≤ 4194304
  o : w.cell? ⟨bc, 1, none⟩ = some (.bool ok)
  f0 : w.frozen? ⟨bc, 0, none⟩ = false
  f1 : w.frozen? ⟨bc, 1, none⟩ = false
  b : Bts bs

theorem below_set (w : World) (bc i : Nat) (v : Value) : Below bc w (w.setCell ⟨bc, i, none⟩ v) := (Below.refl bc w).setCell (p := ⟨bc, i, none⟩) (Nat.le_refl bc) v

theorem Cur.cut {w : World} {bc : Nat} {bs : List Int} {ok : Bool} (h : Cur w bc bs ok) {a : Option Addr} {cap : Nat} (ha : w.cell? ⟨bc, 0, none⟩ = some (.slice a bs.length cap)) (hh : Holds bc w a bs) (hc : bs.length ≤ cap) (hm : cap ≤ 4194304) (n : Nat) :
    Cur (w.setCell ⟨bc, 0, none⟩ (.slice (adv a cap n) (bs.length - n) (cap - n))) bc (bs.drop n) ok := by
  refine ⟨⟨adv a cap n, cap - n, ?_, (hh.drop n hc).below (below_set _ _ _ _), by simp; omega, by omega⟩, ?_, ?_, ?_, h.b.drop n⟩
  · rw [World.cell?_setCell_same w _ _ ha]; simp
  · rw [World.cell?_setCell_other w _ _ _ (by simp)]; exact h.o
  · simpa using h.f0
  · simpa using h.f1

theorem Cur.kill {w : World} {bc : Nat} {bs : List Int} {ok : Bool} (h : Cur w bc bs ok) : Cur (w.setCell ⟨bc, 1, none⟩ (.bool false)) bc bs false := by
  obtain ⟨a, cap, ha, hh, hc, hm⟩ := h.s
  refine ⟨⟨a, cap, ?_, hh.below (below_set _ _ _ _), hc, hm⟩, ?_, ?_, ?_, h.b⟩
  · rw [World.cell?_setCell_other w _ _ _ (by simp)]; exact ha
  · rw [World.cell?_setCell_same w _ _ h.o]
  · simpa using h.f0
  · simpa using h.f1

/-! ### The slices and the conversion that the walks meet -/
theorem sz5 (w : World) : (Go.sizeOf 5).run Try.prog w = .ok 1 w := by kernel_rfl

theorem run_from (a : Option Addr) (len cap n : Nat) (h : n ≤ len) (w : World) :
    (Instr.slice 22 (.slice a len cap) (some (.int .i64 (n : Int))) none none).run Try.prog w = .ok (.slice (adv a cap n) (len - n) (cap - n)) w := by
  have ht' : Try.prog.underlying 22 = some (.slice (Try.prog.elem 22)) := by simp [Program.elem, Try.underlying22]
  have he : Try.prog.elem 22 = 5 := by simp [Program.elem, Try.underlying22]
  rw [run_slice_l w 22 _ _ _ ht' .i64 _ (by omega) (by omega), he, sz5]
  simp [Result.andThen, sliced, adv]

theorem run_upto (a : Option Addr) (len cap n : Nat) (h : n ≤ cap) (w : World) :
    (Instr.slice 22 (.slice a len cap) none (some (.int .i64 (n : Int))) none).run Try.prog w = .ok (.slice (adv a cap 0) n cap) w := by
  have ht' : Try.prog.underlying 22 = some (.slice (Try.prog.elem 22)) := by simp [Program.elem, Try.underlying22]
  have he : Try.prog.elem 22 = 5 := by simp [Program.elem, Try.underlying22]
  rw [run_slice_h w 22 _ _ _ ht' .i64 _ (by omega) (by omega), he, sz5]
  simp [Result.andThen, sliced, adv]

/-- 'string(s)' of a slice that holds bs. -/
theorem run_str {B : Nat} {w : World} {a : Option Addr} {bs : List Int} (h : Holds B w a bs) (cap : Nat) :
    (convert 22 9 (.slice a bs.length cap)).run Try.prog w = .ok (.string (strOfNums bs)) w := by
  rcases h with rfl | ⟨b, off, rfl, _, hk⟩
  · have hz : (convert 22 9 (.slice a 0 cap)).run Try.prog w = .ok (.string (strOfNums [])) w := by
      rw [run_convert_bytes_string w 22 9 5 _ 0 cap Try.underlying22 Try.underlying5 Try.underlying9]
      cases a with
      | none => simp [Conv.bytesToString]; rfl
      | some x =>
        have hl : (loadCells x 0).run Try.prog w = .ok (([] : List Int).map (Value.int .u8)).toArray w := by
          have := run_loadCells_list (P := Try.prog) w x [] (fun j v hj => by simp at hj)
          simpa using this
        rw [run_bytesToString w _ 0 cap [] hl]
        rfl
    exact hz
  · exact run_convert_bytes_arg w 22 5 Try.underlying22 Try.underlying5 b off bs.length cap bs rfl hk 9 Try.underlying9

/-! ### lit (34) -/
theorem lit_dead (bc : Nat) (S : ByteArray) (w : World) (h1 : w.cell? ⟨bc, 1, none⟩ = some (.bool false)) :
    Calls Try.prog 34 #[.pointer (some ⟨bc, 0, none⟩), .string S] w fun e w' => e = .returned (.bool false) ∧ w' = w := by
  go_enter Try.func34, Try.ntmps34
  go_wp2
  go_ret
  exact ⟨rfl, rfl⟩

theorem lit_short (bc : Nat) (S : ByteArray) (w : World) (a : Option Addr) (len cap : Nat) (hl : len < S.size) (h0 : w.cell? ⟨bc, 0, none⟩ = some (.slice a len cap)) (h1 : w.cell? ⟨bc, 1, none⟩ = some (.bool true)) :
    Calls Try.prog 34 #[.pointer (some ⟨bc, 0, none⟩), .string S] w fun e w' => e = .returned (.bool false) ∧ w' = w := by
  go_enter Try.func34, Try.ntmps34
  go_wp2
  go_ret
  exact ⟨rfl, rfl⟩

theorem lit_no (bc : Nat) (S : ByteArray) (w : World) (a : Option Addr) (len cap : Nat) (hl : S.size ≤ len) (hc : len ≤ cap) (h0 : w.cell? ⟨bc, 0, none⟩ = some (.slice a len cap)) (h1 : w.cell? ⟨bc, 1, none⟩ = some (.bool true))
    (T : ByteArray) (hconv : (convert 22 9 (.slice (adv a cap 0) S.size cap)).run Try.prog w = .ok (.string T) w) (hTS : (T.toList == S.toList) = false) :
    Calls Try.prog 34 #[.pointer (some ⟨bc, 0, none⟩), .string S] w fun e w' => e = .returned (.bool false) ∧ w' = w := by
  have hsl := run_upto a len cap S.size (by omega)
  go_enter Try.func34, Try.ntmps34
  go_wp2
  go_ret
  exact ⟨rfl, rfl⟩

theorem lit_yes (bc : Nat) (S : ByteArray) (w : World) (a : Option Addr) (len cap : Nat) (hl : S.size ≤ len) (hc : len ≤ cap) (h0 : w.cell? ⟨bc, 0, none⟩ = some (.slice a len cap)) (h1 : w.cell? ⟨bc, 1, none⟩ = some (.bool true))
    (f0 : w.frozen? ⟨bc, 0, none⟩ = false) (T : ByteArray) (hconv : (convert 22 9 (.slice (adv a cap 0) S.size cap)).run Try.prog w = .ok (.string T) w) (hTS : (T.toList == S.toList) = true) :
    Calls Try.prog 34 #[.pointer (some ⟨bc, 0, none⟩), .string S] w fun e w' => e = .returned (.bool true) ∧ w' = w.setCell ⟨bc, 0, none⟩ (.slice (adv a cap S.size) (len - S.size) (cap - S.size)) := by
  have hsl := run_upto a len cap S.size (by omega)
  have hsl2 := run_from a len cap S.size (by omega)
  go_enter Try.func34, Try.ntmps34
  go_wp2
  go_ret
  exact ⟨rfl, rfl⟩

/-- Do the bytes begin with s? -/
def starts (s bs : List Int) : Bool := decide (bs.take s.length = s)
def litB (ok : Bool) (s bs : List Int) : Bool := ok && starts s bs
def litR (ok : Bool) (s bs : List Int) : List Int := if litB ok s bs then bs.drop s.length else bs

theorem lit_any {w : World} {bc : Nat} {bs : List Int} {ok : Bool} (h : Cur w bc bs ok) (S : ByteArray) :
    Calls Try.prog 34 #[.pointer (some ⟨bc, 0, none⟩), .string S] w fun e w' => e = .returned (.bool (litB ok (byt S) bs)) ∧ Cur w' bc (litR ok (byt S) bs) ok ∧ Below bc w w' := by
  obtain ⟨a, cap, ha, hh, hc, hm⟩ := h.s
  cases ok with
  | false =>
    refine (lit_dead bc S w h.o).mono ?_
    rintro e w' ⟨rfl, rfl⟩
    exact ⟨by simp [litB], by simpa [litR, litB] using h, Below.refl _ _⟩
  | true =>
    by_cases hl : bs.length < S.size
    · refine (lit_short bc S w a bs.length cap hl ha h.o).mono ?_
      rintro e w' ⟨rfl, rfl⟩
      have hs : starts (byt S) bs = false := by
        unfold starts
        rw [byt_length]
        apply decide_eq_false
        intro e
        have := congrArg List.length e
        rw [byt_length, List.length_take] at this
        omega
      exact ⟨by simp [litB, hs], by simpa [litR, litB, hs] using h, Below.refl _ _⟩
    · have hconv := run_str (hh.take S.size hc) cap
      rw [List.length_take, Nat.min_eq_left (by omega)] at hconv
      have hb : byt (strOfNums (bs.take S.size)) = bs.take S.size := byt_strOfNums (h.b.take _)
      by_cases he : bs.take S.size = byt S
      · have hs : starts (byt S) bs = true := by unfold starts; rw [byt_length]; exact decide_eq_true he
        refine (lit_yes bc S w a bs.length cap (by omega) hc ha h.o h.f0 _ hconv (by rw [str_eq, hb]; exact decide_eq_true he)).mono ?_
        rintro e w' ⟨rfl, rfl⟩
        refine ⟨by simp [litB, hs], ?_, below_set _ _ _ _⟩
        have := h.cut ha hh hc hm S.size
        simpa [litR, litB, hs, byt_length] using this
      · have hs : starts (byt S) bs = false := by unfold starts; rw [byt_length]; exact decide_eq_false he
        refine (lit_no bc S w a bs.length cap (by omega) hc ha h.o _ hconv (by rw [str_eq, hb]; exact decide_eq_false he)).mono ?_
        rintro e w' ⟨rfl, rfl⟩
        exact ⟨by simp [litB, hs], by simpa [litR, litB, hs] using h, Below.refl _ _⟩

/-! ### need (35) -/
theorem need_any {w : World} {bc : Nat} {bs : List Int} {ok : Bool} (h : Cur w bc bs ok) (S : ByteArray) :
    Calls Try.prog 35 #[.pointer (some ⟨bc, 0, none⟩), .string S] w fun e w' => e = .returned (.tuple #[]) ∧ Cur w' bc (litR ok (byt S) bs) (litB ok (byt S) bs) ∧ Below bc w w' := by
  cases hb : litB ok (byt S) bs with
  | true =>
    have hok : ok = true := by cases ok <;> simp_all [litB]
    go_enter Try.func35, Try.ntmps35
    go_wp2_with fail
    refine (lit_any h S).mono ?_
    rintro e w1 ⟨rfl, hc, hbel⟩
    rw [hb]
    go_wp2
    go_end0
    exact ⟨rfl, by rw [hok] at hc ⊢; exact hc, hbel⟩
  | false =>
    go_enter Try.func35, Try.ntmps35
    go_wp2_with fail
    refine (lit_any h S).mono ?_
    rintro e w1 ⟨rfl, hc, hbel⟩
    rw [hb]
    have g1 := hc.o
    have g2 := hc.f1
    go_wp2
    go_end0
    exact ⟨rfl, hc.kill, hbel.trans (below_set _ _ _ _)⟩
end Go.Proofs.Qxb6600744a
