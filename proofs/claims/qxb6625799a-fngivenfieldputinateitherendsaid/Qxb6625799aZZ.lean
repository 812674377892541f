/-
  ZZgiven (7).
-/
import Derived.Test.Qxb6625799aGiven
import Derived.RegionTactic
import Derived.BigRegion
import Derived.Deep.MidRow
import Derived.Deep.WholeRow
namespace Go.Proofs.Qxb6625799a
open Go.ChangeShapes Go.WideShapes Go.ChangeAt Go.RowKit
set_option linter.unusedVariables false

theorem Try.info32 : (Try.prog.info? 32).map (fun i => (i.zero, i.size, i.bytes)) = some (some (.agg #[.int .i64 0, .int .i64 0, .int .i64 0, .int .i64 0, .int .i64 0, .bool false, .bool false, .bool false]), 8, 48) := by kernel_rfl

/-- The first k fields are laid into the row at block g, of n fields. -/
def Fr (w : World) (g n k : Nat) (F T Z : List Int) : Prop :=
  ∃ cur : Array Value, w.heap[g]? = some (.cells cur 32 (0, 0)) ∧ cur.size = n * 8 ∧ ∀ i, i < k → cur[i * 8]? = some (.int .i64 (F.getD i 0)) ∧ cur[i * 8 + 1]? = some (.int .i64 (T.getD i 0)) ∧ cur[i * 8 + 4]? = some (.int .i64 (Z.getD i 0))

theorem Fr.there {w : World} {g n k : Nat} {F T Z : List Int} (h : Fr w g n k F T Z) (j : Nat) (hj : j < n * 8) : (∃ x, w.cell? ⟨g, j, none⟩ = some x) ∧ w.frozen? ⟨g, j, none⟩ = false := by
  obtain ⟨cur, h1, h2, h3⟩ := h
  exact ⟨⟨cur[j], (cell_of_row _ _ _ _ _ _ h1).trans (by simp)⟩, frozen_of_row _ _ _ _ _ h1⟩

/-- One field laid, cell by cell. -/
def put8 (w : World) (g o : Nat) (f t z : Int) : World :=
  ((((((((w.setCell ⟨g, o, none⟩ (.int .i64 f)).setCell ⟨g, o + 1, none⟩ (.int .i64 t)).setCell ⟨g, o + 2, none⟩ (.int .i64 0)).setCell ⟨g, o + 3, none⟩ (.int .i64 0)).setCell
    ⟨g, o + 4, none⟩ (.int .i64 z)).setCell ⟨g, o + 5, none⟩ (.bool false)).setCell ⟨g, o + 6, none⟩ (.bool false)).setCell ⟨g, o + 7, none⟩ (.bool false)).drew
def arr8 (cur : Array Value) (o : Nat) (f t z : Int) : Array Value :=
  (((((((cur.setIfInBounds o (.int .i64 f)).setIfInBounds (o + 1) (.int .i64 t)).setIfInBounds (o + 2) (.int .i64 0)).setIfInBounds (o + 3) (.int .i64 0)).setIfInBounds
    (o + 4) (.int .i64 z)).setIfInBounds (o + 5) (.bool false)).setIfInBounds (o + 6) (.bool false)).setIfInBounds (o + 7) (.bool false)
theorem put8_heap (w : World) (g o : Nat) (f t z : Int) (cur : Array Value) (h : w.heap[g]? = some (.cells cur 32 (0, 0))) : (put8 w g o f t z).heap[g]? = some (.cells (arr8 cur o f t z) 32 (0, 0)) := by
  unfold put8 arr8
  rw [heap_drew]
  exact heap_setCell_same _ _ _ _ _ _ (heap_setCell_same _ _ _ _ _ _ (heap_setCell_same _ _ _ _ _ _ (heap_setCell_same _ _ _ _ _ _ (heap_setCell_same _ _ _ _ _ _ (heap_setCell_same _ _ _ _ _ _ (heap_setCell_same _ _ _ _ _ _ (heap_setCell_same _ _ _ _ _ _ h)))))))
theorem put8_below {B : Nat} {w0 w : World} (h : Below B w0 w) (g o : Nat) (f t z : Int) (hg : B ≤ g) : Below B w0 (put8 w g o f t z) :=
  ((((((((h.setCell hg _).setCell hg _).setCell hg _).setCell hg _).setCell hg _).setCell hg _).setCell hg _).setCell hg _).drew
theorem put8_size (w : World) (g o : Nat) (f t z : Int) : (put8 w g o f t z).heap.size = w.heap.size := by
  simp [put8, World.setCell, World.drew]
theorem arr8_size (cur : Array Value) (o : Nat) (f t z : Int) : (arr8 cur o f t z).size = cur.size := by simp [arr8]
theorem arr8_out (cur : Array Value) (o : Nat) (f t z : Int) (j : Nat) (hj : j < o ∨ o + 8 ≤ j) : (arr8 cur o f t z)[j]? = cur[j]? := by
  unfold arr8
  rw [Array.getElem?_setIfInBounds_ne (by omega), Array.getElem?_setIfInBounds_ne (by omega), Array.getElem?_setIfInBounds_ne (by omega), Array.getElem?_setIfInBounds_ne (by omega),
    Array.getElem?_setIfInBounds_ne (by omega), Array.getElem?_setIfInBounds_ne (by omega), Array.getElem?_setIfInBounds_ne (by omega), Array.getElem?_setIfInBounds_ne (by omega)]
theorem arr8_0 (cur : Array Value) (o : Nat) (f t z : Int) (h : o + 8 ≤ cur.size) : (arr8 cur o f t z)[o]? = some (.int .i64 f) := by
  unfold arr8
  rw [Array.getElem?_setIfInBounds_ne (by omega), Array.getElem?_setIfInBounds_ne (by omega), Array.getElem?_setIfInBounds_ne (by omega), Array.getElem?_setIfInBounds_ne (by omega),
    Array.getElem?_setIfInBounds_ne (by omega), Array.getElem?_setIfInBounds_ne (by omega), Array.getElem?_setIfInBounds_ne (by omega), Array.getElem?_setIfInBounds_self_of_lt (by omega)]
theorem arr8_1 (cur : Array Value) (o : Nat) (f t z : Int) (h : o + 8 ≤ cur.size) : (arr8 cur o f t z)[o + 1]? = some (.int .i64 t) := by
  unfold arr8
  rw [Array.getElem?_setIfInBounds_ne (by omega), Array.getElem?_setIfInBounds_ne (by omega), Array.getElem?_setIfInBounds_ne (by omega), Array.getElem?_setIfInBounds_ne (by omega),
    Array.getElem?_setIfInBounds_ne (by omega), Array.getElem?_setIfInBounds_ne (by omega), Array.getElem?_setIfInBounds_self_of_lt (by simp; omega)]
theorem arr8_4 (cur : Array Value) (o : Nat) (f t z : Int) (h : o + 8 ≤ cur.size) : (arr8 cur o f t z)[o + 4]? = some (.int .i64 z) := by
  unfold arr8
  rw [Array.getElem?_setIfInBounds_ne (by omega), Array.getElem?_setIfInBounds_ne (by omega), Array.getElem?_setIfInBounds_ne (by omega), Array.getElem?_setIfInBounds_self_of_lt (by simp; omega)]
theorem fr_step {w : World} {g n k : Nat} {F T Z : List Int} (h : Fr w g n k F T Z) (hk : k < n) : Fr (put8 w g (k * 8) (F.getD k 0) (T.getD k 0) (Z.getD k 0)) g n (k + 1) F T Z := by
  obtain ⟨cur, h1, h2, h3⟩ := h
  refine ⟨_, put8_heap _ _ _ _ _ _ _ h1, by rw [arr8_size]; exact h2, fun i hi => ?_⟩
  by_cases e : i = k
  · subst e
    exact ⟨arr8_0 _ _ _ _ _ (by omega), arr8_1 _ _ _ _ _ (by omega), arr8_4 _ _ _ _ _ (by omega)⟩
  · have := h3 i (by omega)
    rw [arr8_out _ _ _ _ _ _ (by omega), arr8_out _ _ _ _ _ _ (by omega), arr8_out _ _ _ _ _ _ (by omega)]
    exact this
theorem Fr.flds {w : World} {g n : Nat} {F T Z : List Int} (h : Fr w g n n F T Z) : Flds w g n F T Z := by
  obtain ⟨cur, h1, h2, h3⟩ := h
  intro i hi
  obtain ⟨p1, p2, p3⟩ := h3 i hi
  exact ⟨(cell_of_row _ _ _ _ _ _ h1).trans p1, (cell_of_row _ _ _ _ _ _ h1).trans p2, (cell_of_row _ _ _ _ _ _ h1).trans p3⟩

/-- The object, boxed. -/
def objCells (v a : Value) (n : Nat) : Array Value := #[.string ⟨#[]⟩, .int .i64 0, .bool false, .int .u16 0, .int .u8 0, .int .u8 0, .int .u16 0, .int .u8 0, .int .u8 0, v, a, .int .i64 n, .int .i64 0, .pointer none, .pointer none]
theorem last9 (g n c : Nat) (a : Option Addr) (ls cs : Nat) (S F T Z : List Int) (p : ByteArray) (w wr : World) (hn : F.length = n) (hn2 : n ≤ 16385) (hg : g < wr.heap.size) (hfl : Flds wr g n F T Z) (hsrc : Src w a ls cs S) (hw : Well ls F T Z) (hb : Below w.heap.size w wr) :
    Calls Try.prog 9 #[.pointer (some ⟨wr.heap.size, 0, none⟩), .string p] (wr.alloc (.cells (objCells (.slice (some ⟨g, 0, none⟩) n c) (.slice a ls cs) n) 40)) fun e w' => e = .returned (.bool (givenB S F T Z p)) ∧ Below w.heap.size w w' := by
  have hal := (Below.refl wr.heap.size wr).alloc (Nat.le_refl _) (.cells (objCells (.slice (some ⟨g, 0, none⟩) n c) (.slice a ls cs) n) 40)
  have hsz := hb.size
  refine (given9 wr.heap.size g n c a ls cs S F T Z p _ hn hn2 (by simp) (by simp; omega) ((cell_of_row _ _ _ _ _ _ (heap_alloc_last wr _)).trans rfl) ((cell_of_row _ _ _ _ _ _ (heap_alloc_last wr _)).trans rfl) ?_ (hsrc.below (hb.alloc hsz _)) hw).mono ?_
  · intro i hi
    obtain ⟨h1, h2, h3⟩ := hfl i hi
    exact ⟨(hal.cell (p := ⟨g, i * 8, none⟩) hg).trans h1, (hal.cell (p := ⟨g, i * 8 + 1, none⟩) hg).trans h2, (hal.cell (p := ⟨g, i * 8 + 4, none⟩) hg).trans h3⟩
  · rintro e w' ⟨rfl, hb'⟩
    exact ⟨rfl, (hb.alloc hsz _).trans (hb'.mono (by simp; omega))⟩

set_option maxHeartbeats 1000000 in
theorem given7_some (a0 : Option Addr) (ls cs n c1 c2 c3 b1 o1 b2 o2 b3 o3 : Nat) (S F T Z : List Int) (p : ByteArray) (w : World) (hF : F.length = n) (hn0 : 0 < n) (hn : n ≤ 16385) (hsrc : Src w a0 ls cs S) (hw : Well ls F T Z)
    (hb1 : b1 < w.heap.size) (hb2 : b2 < w.heap.size) (hb3 : b3 < w.heap.size)
    (hc1 : ∀ j, j < F.length → w.cell? ⟨b1, o1 + j, none⟩ = some (.int .i64 (F.getD j 0))) (hc2 : ∀ j, j < T.length → w.cell? ⟨b2, o2 + j, none⟩ = some (.int .i64 (T.getD j 0))) (hc3 : ∀ j, j < Z.length → w.cell? ⟨b3, o3 + j, none⟩ = some (.int .i64 (Z.getD j 0))) :
    Calls Try.prog 7 #[.slice a0 ls cs, .slice (some ⟨b1, o1, none⟩) n c1, .slice (some ⟨b2, o2, none⟩) n c2, .slice (some ⟨b3, o3, none⟩) n c3, .string p] w fun e w' => e = .returned (.bool (givenB S F T Z p)) ∧ Below w.heap.size w w' := by
  have H1 : Hid (∀ j, j < F.length → w.cell? ⟨b1, o1 + j, none⟩ = some (.int .i64 (F.getD j 0))) := hc1
  have H2 : Hid (∀ j, j < T.length → w.cell? ⟨b2, o2 + j, none⟩ = some (.int .i64 (T.getD j 0))) := hc2
  have H3 : Hid (∀ j, j < Z.length → w.cell? ⟨b3, o3 + j, none⟩ = some (.int .i64 (Z.getD j 0))) := hc3
  have HW : Hid (Well ls F T Z) := hw
  have HS : Hid (Src w a0 ls cs S) := hsrc
  have HL : Hid (F.length = n ∧ T.length = n ∧ Z.length = n) := ⟨hF, by rw [hw.1, hF], by rw [hw.2.1, hF]⟩
  clear hc1 hc2 hc3 hF hw hsrc
  obtain ⟨i0, hi0, hz0, hz1, hz2⟩ := info_parts Try.info32
  go_enter Try.func7, Try.ntmps7
  go_wp2_with (at_make; refine wpList_make_full _ rfl _ _ 28 rfl w.heap.size 32 i0 _ 8 Try.underlying28 hi0 hz0 hz1 _ _ _ _ n rfl rfl rfl rfl ?b2 ?b3 (Nat.le_refl _) ?_)
  case b2 => rw [hz2]; omega
  case b3 => unfold maxLen; omega
  intro w0 hown0 hgrow0
  have hfr0 : Fr w0 w.heap.size n 0 F T Z := by
    rcases hown0.2 with ⟨h, _⟩ | ⟨g, cap, cur, hv, h2, h3, h4, h5, h6, h7⟩
    · cases h
    · simp at hv
      obtain ⟨rfl, rfl⟩ := hv
      exact ⟨cur, h3, h6, fun i hi => by omega⟩
  have hb0 : Below w.heap.size w w0 := (Below.refl _ _).grown hgrow0 (Nat.le_refl _) (fun k h => by cases h)
  have HF0 : Hid (Fr w0 w.heap.size n 0 F T Z) := hfr0
  have HB0 : Hid (Below w.heap.size w w0) := hb0
  have hlt0 : w.heap.size < w0.heap.size := (hown0.lt w.heap.size rfl).2
  clear hfr0 hb0 hown0 hgrow0
  go_wp2
  go_loopw [12] (fun i wr => ∃ k : Nat, k ≤ n ∧ i = .int .i64 k ∧ Fr wr w.heap.size n k F T Z ∧ Below w.heap.size w wr ∧ w.heap.size < wr.heap.size) (fun i _ => n - (intOf i).toNat)
  case atStart => exact ⟨0, Nat.zero_le _, rfl, HF0.out, HB0.out, hlt0⟩
  case round =>
    clear HF0 HB0 hlt0
    obtain ⟨k, hk, rfl, hfr, hnx, hsz⟩ := hrel
    have HF : Hid (Fr wr w.heap.size n k F T Z) := hfr
    have HB : Hid (Below w.heap.size w wr) := hnx
    by_cases hlt : k < n
    · have q1 : wr.cell? ⟨b1, o1 + k, none⟩ = some (.int .i64 (F.getD k 0)) := (hnx.cell hb1).trans (H1.out k (by have := HL.out; omega))
      have q2 : wr.cell? ⟨b2, o2 + k, none⟩ = some (.int .i64 (T.getD k 0)) := (hnx.cell hb2).trans (H2.out k (by have := HL.out; omega))
      have q3 : wr.cell? ⟨b3, o3 + k, none⟩ = some (.int .i64 (Z.getD k 0)) := (hnx.cell hb3).trans (H3.out k (by have := HL.out; omega))
      obtain ⟨⟨x0, t0⟩, z0⟩ := hfr.there (k * 8) (by omega)
      obtain ⟨⟨x1, t1⟩, z1⟩ := hfr.there (k * 8 + 1) (by omega)
      obtain ⟨⟨x2, t2⟩, z2⟩ := hfr.there (k * 8 + 2) (by omega)
      obtain ⟨⟨x3, t3⟩, z3⟩ := hfr.there (k * 8 + 3) (by omega)
      obtain ⟨⟨x4, t4⟩, z4⟩ := hfr.there (k * 8 + 4) (by omega)
      obtain ⟨⟨x5, t5⟩, z5⟩ := hfr.there (k * 8 + 5) (by omega)
      obtain ⟨⟨x6, t6⟩, z6⟩ := hfr.there (k * 8 + 6) (by omega)
      obtain ⟨⟨x7, t7⟩, z7⟩ := hfr.there (k * 8 + 7) (by omega)
      have hl : (k : Int) < (n : Int) := by omega
      have HS1 : Hid (Fr (put8 wr w.heap.size (k * 8) (F.getD k 0) (T.getD k 0) (Z.getD k 0)) w.heap.size n (k + 1) F T Z) := fr_step hfr hlt
      clear hfr hnx
      generalize F.getD k 0 = f at *
      generalize T.getD k 0 = t at *
      generalize Z.getD k 0 = z at *
      have HS2 : Hid (Below w.heap.size w (put8 wr w.heap.size (k * 8) f t z)) := put8_below HB.out _ _ _ _ _ (Nat.le_refl _)
      have HS3 : Hid (w.heap.size < (put8 wr w.heap.size (k * 8) f t z).heap.size) := by unfold Hid; rw [put8_size]; exact hsz
      go_wp2
      go_region
      clear q1 q2 q3 t0 t1 t2 t3 t4 t5 t6 t7 z0 z1 z2 z3 z4 z5 z6 z7
      go_wp2
      go_roundw
      case rel => exact ⟨k + 1, by omega, by go_num, HS1.out, HS2.out, HS3.out⟩
      case measure => simp [intOf]; omega
    · obtain rfl : k = n := by omega
      have hgs : w.heap.size < wr.heap.size := hsz
      clear hfr hnx
      go_wp2_with fail
      refine (last9 w.heap.size k k a0 ls cs S F T Z p w wr HL.out.1 hn hgs HF.out.flds HS.out HW.out HB.out).mono ?_
      rintro e w9 ⟨rfl, hb9⟩
      go_wp2_with fail
      go_ret
      exact ⟨rfl, hb9⟩

set_option maxHeartbeats 1000000 in
theorem given7_none (a0 a1 a2 a3 : Option Addr) (ls cs c1 c2 c3 : Nat) (S : List Int) (p : ByteArray) (w : World) (hsrc : Src w a0 ls cs S) :
    Calls Try.prog 7 #[.slice a0 ls cs, .slice a1 0 c1, .slice a2 0 c2, .slice a3 0 c3, .string p] w fun e w' => e = .returned (.bool (givenB S [] [] [] p)) ∧ Below w.heap.size w w' := by
  have HS : Hid (Src w a0 ls cs S) := hsrc
  clear hsrc
  obtain ⟨i0, hi0, hz0, hz1, hz2⟩ := info_parts Try.info32
  go_enter Try.func7, Try.ntmps7
  go_wp2_with (at_make; refine wpList_make_full _ rfl _ _ 28 rfl w.heap.size 32 i0 _ 8 Try.underlying28 hi0 hz0 hz1 _ _ _ _ 0 rfl rfl (by rfl) (by rfl) ?b2 ?b3 (Nat.le_refl _) ?_)
  case b2 => rw [hz2]; omega
  case b3 => unfold maxLen; omega
  intro w0 hown0 hgrow0
  have hb0 : Below w.heap.size w w0 := (Below.refl _ _).grown hgrow0 (Nat.le_refl _) (fun k h => by cases h)
  have HB0 : Hid (Below w.heap.size w w0) := hb0
  have hlt0 : w.heap.size < w0.heap.size := (hown0.lt w.heap.size rfl).2
  clear hb0 hown0 hgrow0
  go_wp2
  go_loopw [12] (fun i wr => i = .int .i64 0 ∧ wr = w0) (fun _ _ => 0)
  case atStart => exact ⟨rfl, rfl⟩
  case round =>
    obtain ⟨rfl, rfl⟩ := hrel
    go_wp2_with fail
    refine (last9 w.heap.size 0 0 a0 ls cs S [] [] [] p w wr rfl (by omega) hlt0 (fun i hi => by omega) HS.out ⟨rfl, rfl, fun i hi => by simp at hi⟩ HB0.out).mono ?_
    rintro e w9 ⟨rfl, hb9⟩
    go_wp2_with fail
    go_ret
    exact ⟨rfl, hb9⟩

/-- ZZgiven, wherever its slices lie. -/
theorem given7 (a0 a1 a2 a3 : Option Addr) (ls cs c1 c2 c3 : Nat) (S F T Z : List Int) (p : ByteArray) (w : World) (hn : F.length ≤ 16385) (hsrc : Src w a0 ls cs S) (h1 : Row .i64 w a1 F) (h2 : Row .i64 w a2 T) (h3 : Row .i64 w a3 Z) (hw : Well ls F T Z) :
    Calls Try.prog 7 #[.slice a0 ls cs, .slice a1 F.length c1, .slice a2 F.length c2, .slice a3 F.length c3, .string p] w fun e w' => e = .returned (.bool (givenB S F T Z p)) ∧ Below w.heap.size w w' := by
  by_cases h0 : F.length = 0
  · obtain rfl : F = [] := List.eq_nil_of_length_eq_zero h0
    obtain rfl : T = [] := List.eq_nil_of_length_eq_zero hw.1
    obtain rfl : Z = [] := List.eq_nil_of_length_eq_zero hw.2.1
    exact given7_none a0 a1 a2 a3 ls cs c1 c2 c3 S p w hsrc
  · have e1 := hw.1
    have e2 := hw.2.1
    obtain ⟨b1, o1, rfl, hb1, hc1⟩ := h1.at_pos (by omega)
    obtain ⟨b2, o2, rfl, hb2, hc2⟩ := h2.at_pos (by omega)
    obtain ⟨b3, o3, rfl, hb3, hc3⟩ := h3.at_pos (by omega)
    exact given7_some a0 ls cs F.length c1 c2 c3 b1 o1 b2 o2 b3 o3 S F T Z p w rfl (by omega) hn hsrc hw hb1 hb2 hb3 hc1 hc2 hc3
end Go.Proofs.Qxb6625799a
