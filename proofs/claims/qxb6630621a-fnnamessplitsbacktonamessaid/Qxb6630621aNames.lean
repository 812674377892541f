/-
  (*ProviderTable).names (13): under the reader's lock; strings.Join by the shelf's contract.
-/
import Derived.Test.Qxb6630621aTable
import Derived.Test.Qxb6630621aLocks
import Derived.Test.Qxb6630621aShelf
import Derived.Conc.RwLone
namespace Go.Proofs.Qxb6630621a
open Go.ChangeShapes Go.WideShapes Go.ChangeAt Go.RowKit
open Go.RwLone

theorem Try.info9 : (Try.prog.info? 9).map (fun i => (i.zero, i.size, i.bytes)) = some (some (.string ⟨#[]⟩), 1, 16) := by kernel_rfl

/-- The table's cells with so many readers. -/
def tabC (rc : Int) (v : Value) : Array Value := #[.int .i32 0, .int .u32 0, .int .u32 0, .int .u32 0, .int .i32 rc, .int .i32 0, v]

theorem tab_set (w : World) (t : Nat) (rc rc' : Int) (v : Value) (h : w.heap[t]? = some (.cells (tabC rc v) 51 (0, 0))) :
    (w.setCell ⟨t, 4, none⟩ (.int .i32 rc')).heap[t]? = some (.cells (tabC rc' v) 51 (0, 0)) := by
  rw [heap_setCell_same w t 4 _ 51 _ h]; rfl

theorem wr_up : wrap32 (0 + 1) = 1 := by unfold wrap32; omega
theorem wr_down : wrap32 (1 + -1) = 0 := by unfold wrap32; omega

def noneText : ByteArray := ⟨#[110, 111, 110, 101]⟩
def sepText : ByteArray := ⟨#[44, 32]⟩

set_option maxHeartbeats 1000000 in
theorem names13_none (B t g c : Nat) (w : World) (hBt : B ≤ t) (htab : w.heap[t]? = some (.cells (tabC 0 (.slice (some ⟨g, 0, none⟩) 0 c)) 51 (0, 0))) :
    Calls Try.prog 13 #[.pointer (some ⟨t, 0, none⟩)] w fun e w' => e = .returned (.string noneText) ∧ Below B w w' := by
  have c0 : w.cell? ⟨t, 0, none⟩ = some (.int .i32 0) := (cell_of_row _ _ _ _ _ _ htab).trans rfl
  have c3 : w.cell? ⟨t, 3, none⟩ = some (.int .u32 0) := (cell_of_row _ _ _ _ _ _ htab).trans rfl
  have c4 : w.cell? ⟨t, 4, none⟩ = some (.int .i32 0) := (cell_of_row _ _ _ _ _ _ htab).trans rfl
  have z4 : w.frozen? ⟨t, 4, none⟩ = false := frozen_of_row _ _ _ _ _ htab
  go_enter_defers Try.func13, Try.ntmps13
  go_wp2_with fail
  refine (rlock_open Try.rwRLib t 0 0 _ _ _ c0 c3 c4 z4 (by rw [wr_up]; omega)).mono ?_
  rintro e w1 ⟨rfl, hw1⟩
  rw [wr_up] at hw1
  have htab1 : w1.heap[t]? = some (.cells (tabC 1 (.slice (some ⟨g, 0, none⟩) 0 c)) 51 (0, 0)) := by rw [hw1]; exact tab_set _ _ _ _ _ htab
  have hb1 : Below B w w1 := by rw [hw1]; exact (Below.refl _ _).setCell hBt _
  clear hw1 c0 c3 c4 z4
  have d6 : w1.cell? ⟨t, 6, none⟩ = some (.slice (some ⟨g, 0, none⟩) 0 c) := (cell_of_row _ _ _ _ _ _ htab1).trans rfl
  have d0 : w1.cell? ⟨t, 0, none⟩ = some (.int .i32 0) := (cell_of_row _ _ _ _ _ _ htab1).trans rfl
  have d2 : w1.cell? ⟨t, 2, none⟩ = some (.int .u32 0) := (cell_of_row _ _ _ _ _ _ htab1).trans rfl
  have d4 : w1.cell? ⟨t, 4, none⟩ = some (.int .i32 1) := (cell_of_row _ _ _ _ _ _ htab1).trans rfl
  have z4 : w1.frozen? ⟨t, 4, none⟩ = false := frozen_of_row _ _ _ _ _ htab1
  have HB : Hid (Below B w w1) := hb1
  clear hb1 htab htab1
  go_wp2_with fail
  refine leaves_cons (f := 16) (args := #[.pointer (some ⟨t, 0, none⟩)]) (by simp) (by simp [go_sem]) ?_
  refine (runlock_deferred Try.rwRLib t 0 1 _ _ .returning _ d0 d2 d4 z4 (by rw [wr_down]; omega)).mono ?_
  rintro e u' w'' ⟨rfl, rfl, rfl⟩
  exact ⟨_, results_tmp rfl _ _ _, rfl, HB.out.setCell hBt _⟩

theorem provs_length (l : List ByteArray) : (provs l).length = l.length * 9 := by
  induction l with
  | nil => simp [provs]
  | cons a r ih => simp [provs, prov_len, ih]; omega
theorem provs_at (l : List ByteArray) (k j : Nat) (hk : k < l.length) (hj : j < 9) : (provs l)[k * 9 + j]? = (provCells (l.getD k ByteArray.empty))[j]? := by
  induction l generalizing k with
  | nil => simp at hk
  | cons a r ih =>
    cases k with
    | zero =>
      simp only [provs, Nat.zero_mul, Nat.zero_add]
      rw [List.getElem?_append_left (by rw [prov_len]; omega)]
      simp [List.getD]
    | succ k =>
      simp only [provs]
      rw [List.getElem?_append_right (by rw [prov_len]; omega), prov_len, show (k + 1) * 9 + j - 9 = k * 9 + j from by omega, ih k (by simpa using hk)]
      simp [List.getD]
theorem prov_cell {w : World} {B g c : Nat} {ys : List ByteArray} (h : w.ownsRow B 36 9 (.slice (some ⟨g, 0, none⟩) ys.length c) ys.length (provs ys)) (k j : Nat) (hk : k < ys.length) (hj : j < 9) :
    w.cell? ⟨g, k * 9 + j, none⟩ = (provCells (ys.getD k ByteArray.empty))[j]? := by
  rw [h.cellAt (k * 9 + j) (by omega), provs_at ys k j hk hj]

theorem map_snoc (ys : List ByteArray) (k : Nat) (h : k < ys.length) : (ys.take (k + 1)).map Value.string = (ys.take k).map Value.string ++ [.string (ys.getD k ByteArray.empty)] := by
  rw [List.take_succ_eq_append_getElem h, List.map_append]
  simp only [List.getD, List.map_cons, List.map_nil, List.getElem?_eq_getElem h, Option.getD_some]

theorem lens_sum (ys : List ByteArray) : Lib.lens (ys.map (·.data.toList)) = sumSz ys := by
  induction ys with
  | nil => rfl
  | cons a r ih =>
    have h : Lib.lens ((a :: r).map (·.data.toList)) = a.data.toList.length + Lib.lens (r.map (·.data.toList)) := by simp [Lib.lens]
    rw [h, ih]; simp [sumSz]
theorem join_len (ys : List ByteArray) : (Lib.join (ys.map (·.data.toList)) sepText.data.toList).length ≤ 2 * ys.length + sumSz ys := by
  cases ys with
  | nil => simp [Lib.join_nil]
  | cons a r =>
    rw [List.map_cons, Lib.join_cons, List.length_append, Lib.joinTail_length]
    have := lens_sum r
    have h2 : sepText.data.toList.length = 2 := rfl
    simp only [sumSz, List.length_map, List.length_cons, h2]
    have h3 : a.data.toList.length = a.size := by simp
    omega

set_option maxHeartbeats 1000000 in
theorem names13_some (B t g : Nat) (ys : List ByteArray) (w : World) (hBt : B ≤ t) (hgs : g < w.heap.size) (htab : w.heap[t]? = some (.cells (tabC 0 (.slice (some ⟨g, 0, none⟩) ys.length ys.length)) 51 (0, 0)))
    (hown : w.ownsRow B 36 9 (.slice (some ⟨g, 0, none⟩) ys.length ys.length) ys.length (provs ys)) (hgt : g ≠ t) (hy0 : 0 < ys.length) (hy1 : ys.length ≤ 4096) (hsum : sumSz ys ≤ 1048576) :
    Calls Try.prog 13 #[.pointer (some ⟨t, 0, none⟩)] w fun e w' => e = .returned (.string ⟨(Lib.join (ys.map (·.data.toList)) sepText.data.toList).toArray⟩) ∧ Below B w w' := by
  have c0 : w.cell? ⟨t, 0, none⟩ = some (.int .i32 0) := (cell_of_row _ _ _ _ _ _ htab).trans rfl
  have c3 : w.cell? ⟨t, 3, none⟩ = some (.int .u32 0) := (cell_of_row _ _ _ _ _ _ htab).trans rfl
  have c4 : w.cell? ⟨t, 4, none⟩ = some (.int .i32 0) := (cell_of_row _ _ _ _ _ _ htab).trans rfl
  have z4 : w.frozen? ⟨t, 4, none⟩ = false := frozen_of_row _ _ _ _ _ htab
  have hts : t < w.heap.size := by
    by_cases h : t < w.heap.size
    · exact h
    · rw [Array.getElem?_eq_none (by omega)] at htab; cases htab
  obtain ⟨i0, hi0, hz0, hz1, hz2⟩ := info_parts Try.info9
  have hne : ((ys.length : Int) == 0) = false := beq_eq_false_iff_ne.2 (by omega)
  go_enter_defers Try.func13, Try.ntmps13
  go_wp2_with fail
  refine (rlock_open Try.rwRLib t 0 0 _ _ _ c0 c3 c4 z4 (by rw [wr_up]; omega)).mono ?_
  rintro e w1 ⟨rfl, hw1⟩
  rw [wr_up] at hw1
  have htab1 : w1.heap[t]? = some (.cells (tabC 1 (.slice (some ⟨g, 0, none⟩) ys.length ys.length)) 51 (0, 0)) := by rw [hw1]; exact tab_set _ _ _ _ _ htab
  have hb1 : Below B w w1 := by rw [hw1]; exact (Below.refl _ _).setCell hBt _
  have hs1 : w1.heap.size = w.heap.size := by rw [hw1]; simp [World.setCell]
  have hg1 : w1.heap[g]? = w.heap[g]? := by rw [hw1]; exact Below.heap_setCell _ _ _ _ hgt
  have hown1 : w1.ownsRow B 36 9 (.slice (some ⟨g, 0, none⟩) ys.length ys.length) ys.length (provs ys) := by
    refine ⟨hown.1, ?_⟩
    rcases hown.2 with h | ⟨g', cap, cur, hv, h2, h3, h4⟩
    · exact .inl h
    · refine .inr ⟨g', cap, cur, hv, h2, ?_, h4⟩
      have : g = g' := by simp at hv; exact hv.1
      subst this
      rw [hg1]; exact h3
  have d6 : w1.cell? ⟨t, 6, none⟩ = some (.slice (some ⟨g, 0, none⟩) ys.length ys.length) := (cell_of_row _ _ _ _ _ _ htab1).trans rfl
  have D0 : Hid (w1.cell? ⟨t, 0, none⟩ = some (.int .i32 0)) := (cell_of_row _ _ _ _ _ _ htab1).trans rfl
  have D2 : Hid (w1.cell? ⟨t, 2, none⟩ = some (.int .u32 0)) := (cell_of_row _ _ _ _ _ _ htab1).trans rfl
  have D4 : Hid (w1.cell? ⟨t, 4, none⟩ = some (.int .i32 1)) := (cell_of_row _ _ _ _ _ _ htab1).trans rfl
  have Z4 : Hid (w1.frozen? ⟨t, 4, none⟩ = false) := frozen_of_row _ _ _ _ _ htab1
  have HB : Hid (Below B w w1) := hb1
  have ht1 : t < w1.heap.size := by omega
  have hgs1 : g < w1.heap.size := by omega
  have HO : Hid (w1.ownsRow B 36 9 (.slice (some ⟨g, 0, none⟩) ys.length ys.length) ys.length (provs ys)) := hown1
  clear hw1 c0 c3 c4 z4 hb1 htab htab1 hs1 hg1 hown1 hown hts hgs
  go_wp2_with (at_make; refine wpList_make_own _ rfl _ _ 22 rfl w1.heap.size 9 i0 _ 1 Try.underlying22 hi0 hz0 hz1 _ _ _ ys.length rfl rfl (by omega) ?b2 ?b3 (Nat.le_refl _) ?_)
  case b2 => rw [hz2]; omega
  case b3 => unfold maxLen; omega
  intro w2 hown2 hgrow2
  have hnx2 : Below w1.heap.size w1 w2 := (Below.refl _ _).grown hgrow2 (Nat.le_refl _) (fun k h => by cases h)
  have e6 : w2.cell? ⟨t, 6, none⟩ = some (.slice (some ⟨g, 0, none⟩) ys.length ys.length) := (hnx2.cell ht1).trans d6
  go_wp2
  go_loopw [3, 30] (fun v i wr => ∃ k : Nat, k ≤ ys.length ∧ i = .int .i64 k ∧ v = .slice (some ⟨w1.heap.size, 0, none⟩) k ys.length ∧
      wr.ownsRow w1.heap.size 9 1 (.slice (some ⟨w1.heap.size, 0, none⟩) k ys.length) k ((ys.take k).map Value.string) ∧ Below w1.heap.size w1 wr) (fun _ i _ => ys.length - (intOf i).toNat)
  case atStart => exact ⟨0, Nat.zero_le _, rfl, rfl, hown2, hnx2⟩
  case round =>
    clear hown2 hgrow2 hnx2 e6 d6
    obtain ⟨k, hk, rfl, rfl, hown, hnx⟩ := hrel
    have hsz := hnx.size
    by_cases hlt : k < ys.length
    · have HN : Hid ((ys.take (k + 1)).map Value.string = (ys.take k).map Value.string ++ [.string (ys.getD k ByteArray.empty)]) := map_snoc ys k hlt
      have q0 : wr.cell? ⟨g, k * 9, none⟩ = some (.string (ys.getD k ByteArray.empty)) := (hnx.cell hgs1).trans ((prov_cell HO.out k 0 hlt (by omega)).trans rfl)
      have q1 : wr.cell? ⟨g, k * 9 + 1, none⟩ = some (.string ⟨#[]⟩) := (hnx.cell hgs1).trans ((prov_cell HO.out k 1 hlt (by omega)).trans rfl)
      have q2 : wr.cell? ⟨g, k * 9 + 2, none⟩ = some (.string ⟨#[]⟩) := (hnx.cell hgs1).trans ((prov_cell HO.out k 2 hlt (by omega)).trans rfl)
      have q3 : wr.cell? ⟨g, k * 9 + 3, none⟩ = some (.string ⟨#[]⟩) := (hnx.cell hgs1).trans ((prov_cell HO.out k 3 hlt (by omega)).trans rfl)
      have q4 : wr.cell? ⟨g, k * 9 + 4, none⟩ = some (.slice none 0 0) := (hnx.cell hgs1).trans ((prov_cell HO.out k 4 hlt (by omega)).trans rfl)
      have q5 : wr.cell? ⟨g, k * 9 + 5, none⟩ = some (.string ⟨#[]⟩) := (hnx.cell hgs1).trans ((prov_cell HO.out k 5 hlt (by omega)).trans rfl)
      have q6 : wr.cell? ⟨g, k * 9 + 6, none⟩ = some (.map none) := (hnx.cell hgs1).trans ((prov_cell HO.out k 6 hlt (by omega)).trans rfl)
      have q7 : wr.cell? ⟨g, k * 9 + 7, none⟩ = some (.string ⟨#[]⟩) := (hnx.cell hgs1).trans ((prov_cell HO.out k 7 hlt (by omega)).trans rfl)
      have q8 : wr.cell? ⟨g, k * 9 + 8, none⟩ = some (.int .i64 0) := (hnx.cell hgs1).trans ((prov_cell HO.out k 8 hlt (by omega)).trans rfl)
      generalize ys.getD k ByteArray.empty = s at *
      go_wp2_with (at_builtin; refine wpList_append_fits _ rfl _ _ 22 rfl w1.heap.size 9 i0 1 Try.underlying22 hi0 hz1 w1.heap.size k ys.length _ rfl ((hown.alloc _).alloc _) ⟨wr.heap.size + 1, 0, none⟩ 1 1 [.string s] rfl rfl (by intro j u hj; match j, hj with | 0, hj => simp at hj; subst hj; simp [Addr.add]) (by intro u hu; simp at hu; subst hu; rfl) (by omega) ?_; intro w3 hown3 hgrow3)
      have hown4 : w3.ownsRow w1.heap.size 9 1 (.slice (some ⟨w1.heap.size, 0, none⟩) (k + 1) ys.length) (k + 1) ((ys.take (k + 1)).map Value.string) := by
        rw [HN.out]; exact hown3
      have hnx4 : Below w1.heap.size w1 w3 := ((hnx.alloc hsz _).alloc (by simp; omega) _).grown hgrow3 (by simp; omega) (fun j hj => by cases hj; exact Nat.le_refl _)
      go_roundw
      case rel => exact ⟨k + 1, by omega, by go_num, rfl, hown4, hnx4⟩
      case measure => simp [intOf]; omega
    · obtain rfl : k = ys.length := by omega
      have hjc : ∀ (j : Nat) x, ys[j]? = some x → wr.cell? ⟨w1.heap.size, 0 + j, none⟩ = some (.string x) := by
        intro j x hx
        have hj : j < ys.length := by
          by_cases h : j < ys.length
          · exact h
          · rw [List.getElem?_eq_none (by omega)] at hx; cases hx
        rw [Nat.zero_add, hown.cellAt j (by omega)]
        rw [List.take_of_length_le (Nat.le_refl _), List.getElem?_map, hx]; rfl
      have hjl : (Lib.join (ys.map (·.data.toList)) sepText.data.toList).length ≤ 140737488355328 := by
        have := join_len ys
        omega
      have HJC : Hid (∀ (j : Nat) x, ys[j]? = some x → wr.cell? ⟨w1.heap.size, 0 + j, none⟩ = some (.string x)) := hjc
      have HJL : Hid ((Lib.join (ys.map (·.data.toList)) sepText.data.toList).length ≤ 140737488355328) := hjl
      have hlt2 := (hown.lt w1.heap.size rfl).2
      clear hjc hjl
      go_wp2_with fail
      refine (Try.strings_Join w1.heap.size 0 ys.length ys sepText _ HJC.out hlt2 (by omega) (Nat.le_refl _) HJL.out).mono ?_
      rintro e w5 ⟨rfl, hb5⟩
      have d0 : w5.cell? ⟨t, 0, none⟩ = some (.int .i32 0) := (hb5.cell (by show t < _; omega)).trans ((hnx.cell ht1).trans D0.out)
      have d2 : w5.cell? ⟨t, 2, none⟩ = some (.int .u32 0) := (hb5.cell (by show t < _; omega)).trans ((hnx.cell ht1).trans D2.out)
      have d4 : w5.cell? ⟨t, 4, none⟩ = some (.int .i32 1) := (hb5.cell (by show t < _; omega)).trans ((hnx.cell ht1).trans D4.out)
      have z4 : w5.frozen? ⟨t, 4, none⟩ = false := (hb5.frozen (by show t < _; omega)).trans ((hnx.frozen ht1).trans Z4.out)
      go_wp2_with fail
      refine leaves_cons (f := 16) (args := #[.pointer (some ⟨t, 0, none⟩)]) (by simp) (by simp [go_sem]) ?_
      refine (runlock_deferred Try.rwRLib t 0 1 _ _ .returning _ d0 d2 d4 z4 (by rw [wr_down]; omega)).mono ?_
      rintro e u' w'' ⟨rfl, rfl, rfl⟩
      refine ⟨_, results_tmp rfl _ _ _, rfl, Below.setCell ?_ hBt _⟩
      have hBs : B ≤ w1.heap.size := by omega
      exact HB.out.trans ((hnx.mono hBs).trans (hb5.mono (by omega)))
end Go.Proofs.Qxb6630621a
