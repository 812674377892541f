/-
  The table: ZZnewProviderTable (14), zzTable (9).
-/
import Derived.Test.Qxb6630621aSmall
import Derived.OwnWalk
import Derived.Deep.WholeRow
namespace Go.Proofs.Qxb6630621a
open Go.ChangeShapes Go.WideShapes Go.ChangeAt Go.RowKit

theorem Try.info36 : (Try.prog.info? 36).map (fun i => (i.zero, i.size, i.bytes)) = some (some (.agg #[.string ⟨#[]⟩, .string ⟨#[]⟩, .string ⟨#[]⟩, .string ⟨#[]⟩, .slice none 0 0, .string ⟨#[]⟩, .map none, .string ⟨#[]⟩, .int .i64 0]), 9, 136) := by kernel_rfl

/-- The table's cells: the lock, free; the entries. -/
def tabCells (v : Value) : Array Value := #[.int .i32 0, .int .u32 0, .int .u32 0, .int .u32 0, .int .i32 0, .int .i32 0, v]
/-- One entry's cells, and those of a list of entries. -/
def provArr (s : ByteArray) : Array Value := #[.string s, .string ⟨#[]⟩, .string ⟨#[]⟩, .string ⟨#[]⟩, .slice none 0 0, .string ⟨#[]⟩, .map none, .string ⟨#[]⟩, .int .i64 0]
def provCells (s : ByteArray) : List Value := (provArr s).toList
def provs : List ByteArray → List Value
  | [] => []
  | s :: r => provCells s ++ provs r

theorem provs_snoc (l : List ByteArray) (s : ByteArray) : provs (l ++ [s]) = provs l ++ provCells s := by
  induction l with
  | nil => simp [provs]
  | cons a r ih => simp [provs, ih]
theorem prov_len (s : ByteArray) : (provCells s).length = 9 := rfl
theorem prov_one (s : ByteArray) : ∀ u ∈ provCells s, u.oneCell' = true := by
  intro u hu
  simp only [provCells, provArr, List.mem_cons, List.not_mem_nil, or_false] at hu
  rcases hu with rfl | rfl | rfl | rfl | rfl | rfl | rfl | rfl | rfl <;> rfl

theorem newTab14 (v : Value) (a : Option Addr) (n c : Nat) (hv : v = .slice a n c) (w : World) :
    Calls Try.prog 14 #[v] w fun e w' => e = .returned (.pointer (some ⟨w.heap.size, 0, none⟩)) ∧ w' = w.alloc (.cells (tabCells v) 51) := by
  subst hv
  go_enter Try.func14, Try.ntmps14
  go_wp2
  go_ret
  exact ⟨rfl, rfl⟩

theorem snoc_drop (xs : List ByteArray) (lo k : Nat) (h : lo + k < xs.length) : (xs.drop lo).take (k + 1) = (xs.drop lo).take k ++ [xs.getD (lo + k) ByteArray.empty] := by
  have h' : k < (xs.drop lo).length := by simp; omega
  rw [List.take_succ_eq_append_getElem h']
  simp [List.getD, List.getElem_drop, h]

theorem add0 (g j : Nat) : ((⟨g, 0, none⟩ : Addr).add j) = ⟨g, j, none⟩ := by
  unfold Addr.add; split <;> simp_all

set_option maxHeartbeats 1000000 in
theorem table9 (b off c : Nat) (xs : List ByteArray) (lo N : Nat) (hhi : lo + N ≤ xs.length) (w : World) (hc : Strs w b off xs) (hb : b < w.heap.size) (hn : xs.length ≤ 4096) (hi : Int) (hhi2 : hi = (lo : Int) + N) :
    Calls Try.prog 9 #[.slice (some ⟨b, off, none⟩) xs.length c, .int .i64 lo, .int .i64 hi] w fun e w' => ∃ t, e = .returned (.pointer (some ⟨t, 0, none⟩)) ∧ Below w.heap.size w w' ∧ w.heap.size < t ∧
      w'.heap[t]? = some (.cells (tabCells (.slice (some ⟨w.heap.size, 0, none⟩) N N)) 51 (0, 0)) ∧ w'.ownsRow w.heap.size 36 9 (.slice (some ⟨w.heap.size, 0, none⟩) N N) N (provs ((xs.drop lo).take N)) := by
  subst hhi2
  have HC : Hid (Strs w b off xs) := hc
  clear hc
  obtain ⟨i0, hi0, hz0, hz1, hz2⟩ := info_parts Try.info36
  go_enter Try.func9, Try.ntmps9
  go_wp2_with (at_make; refine wpList_make_own _ rfl _ _ 31 rfl w.heap.size 36 i0 _ 9 Try.underlying31 hi0 hz0 hz1 _ _ _ N rfl rfl (by omega) ?b2 ?b3 (Nat.le_refl _) ?_)
  case b2 => rw [hz2]; omega
  case b3 => unfold maxLen; omega
  intro w0 hown0 hgrow0
  go_wp2
  go_loopw [7, 8] (fun v i wr => ∃ k : Nat, k ≤ N ∧ i = .int .i64 ((lo : Int) + k) ∧ v = .slice (some ⟨w.heap.size, 0, none⟩) k N ∧
      wr.ownsRow w.heap.size 36 9 (.slice (some ⟨w.heap.size, 0, none⟩) k N) k (provs ((xs.drop lo).take k)) ∧ Below w.heap.size w wr) (fun _ i _ => lo + N - (intOf i).toNat)
  case atStart => exact ⟨0, Nat.zero_le _, by simp, rfl, hown0, (Below.refl _ _).grown hgrow0 (Nat.le_refl _) (fun k h => by cases h)⟩
  case round =>
    obtain ⟨k, hk, rfl, rfl, hown, hnx⟩ := hrel
    have hsz := hnx.size
    by_cases hlt : k < N
    · have hcell : wr.cell? ⟨b, off + (lo + k), none⟩ = some (.string (xs.getD (lo + k) ByteArray.empty)) := (hnx.cell hb).trans (HC.out (lo + k) (by omega))
      have HN : Hid ((xs.drop lo).take (k + 1) = (xs.drop lo).take k ++ [xs.getD (lo + k) ByteArray.empty]) := snoc_drop xs lo k (by omega)
      generalize xs.getD (lo + k) ByteArray.empty = s at *
      have hnew : ∀ j u, (provCells s)[j]? = some u → (wr.alloc (.cells (provArr s) 36)).cell? ((⟨wr.heap.size, 0, none⟩ : Addr).add j) = some u := by
        intro j u hu
        rw [show ((⟨wr.heap.size, 0, none⟩ : Addr).add j) = ⟨wr.heap.size, j, none⟩ from add0 _ _]
        rw [cell_of_row _ _ j _ 36 (0, 0) (heap_alloc_last wr _)]
        simpa [provCells] using hu
      have HW : Hid (∀ j u, (provCells s)[j]? = some u → (wr.alloc (.cells (provArr s) 36)).cell? ((⟨wr.heap.size, 0, none⟩ : Addr).add j) = some u) := hnew
      clear hnew
      go_wp2_with (at_builtin; refine wpList_append_fits _ rfl _ _ 31 rfl w.heap.size 36 i0 9 Try.underlying31 hi0 hz1 w.heap.size k N _ rfl (hown.alloc _) ⟨wr.heap.size, 0, none⟩ 1 1 (provCells s) rfl rfl HW.out (prov_one s) (by omega) ?_; intro w1 hown1 hgrow1)
      have hown2 : w1.ownsRow w.heap.size 36 9 (.slice (some ⟨w.heap.size, 0, none⟩) (k + 1) N) (k + 1) (provs ((xs.drop lo).take (k + 1))) := by
        rw [HN.out, provs_snoc]; exact hown1
      have hnx2 : Below w.heap.size w w1 := (hnx.alloc hsz _).grown hgrow1 (by simp; omega) (fun j hj => by cases hj; exact Nat.le_refl _)
      go_roundw
      case rel => exact ⟨k + 1, by omega, by go_num, rfl, hown2, hnx2⟩
      case measure => simp [intOf]; omega
    · obtain rfl : k = N := by omega
      go_wp2_with fail
      refine (newTab14 _ _ _ _ rfl _).mono ?_
      rintro e w2 ⟨rfl, rfl⟩
      go_wp2_with fail
      go_ret
      exact ⟨wr.heap.size, rfl, hnx.alloc hsz _, (hown.lt w.heap.size rfl).2, heap_alloc_last wr _, hown.alloc _⟩
end Go.Proofs.Qxb6630621a
