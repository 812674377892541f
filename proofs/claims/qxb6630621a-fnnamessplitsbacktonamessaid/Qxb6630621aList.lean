/-
  A listing: ZZnames (8) of a table, zzTable (9) with its table behind one word; and the plain laws on listings.
-/
import Derived.Test.Qxb6630621aNames
namespace Go.Proofs.Qxb6630621a
open Go.ChangeShapes Go.WideShapes Go.ChangeAt Go.RowKit

/-- What a listing reads. -/
def nt : List ByteArray → ByteArray
  | [] => noneText
  | y :: r => ⟨(Lib.join ((y :: r).map (·.data.toList)) sepText.data.toList).toArray⟩

/-- A table of the entries named ys lies at block t; all that it leads to lies from block B on. -/
def TabOK (w : World) (B t : Nat) (ys : List ByteArray) : Prop :=
  B ≤ t ∧ ∃ g, g < w.heap.size ∧ g ≠ t ∧ w.heap[t]? = some (.cells (tabC 0 (.slice (some ⟨g, 0, none⟩) ys.length ys.length)) 51 (0, 0)) ∧
    w.ownsRow B 36 9 (.slice (some ⟨g, 0, none⟩) ys.length ys.length) ys.length (provs ys)

theorem names13_any (B t : Nat) (ys : List ByteArray) (w : World) (h : TabOK w B t ys) (hy1 : ys.length ≤ 4096) (hsum : sumSz ys ≤ 1048576) :
    Calls Try.prog 13 #[.pointer (some ⟨t, 0, none⟩)] w fun e w' => e = .returned (.string (nt ys)) ∧ Below B w w' := by
  obtain ⟨hBt, g, hgs, hgt, htab, hown⟩ := h
  cases ys with
  | nil => exact names13_none B t g 0 w hBt htab
  | cons y r => exact names13_some B t g (y :: r) w hBt hgs htab hown hgt (by simp) hy1 hsum

theorem names8 (B t : Nat) (ys : List ByteArray) (w : World) (h : TabOK w B t ys) (hy1 : ys.length ≤ 4096) (hsum : sumSz ys ≤ 1048576) :
    Calls Try.prog 8 #[.pointer (some ⟨t, 0, none⟩)] w fun e w' => e = .returned (.string (nt ys)) ∧ Below B w w' := by
  have H : Hid (TabOK w B t ys) := h
  clear h
  go_enter Try.func8, Try.ntmps8
  go_wp2_with fail
  refine (names13_any B t ys _ H.out hy1 hsum).mono ?_
  rintro e w1 ⟨rfl, hb⟩
  go_wp2_with fail
  go_ret
  exact ⟨rfl, hb⟩

theorem sumSz_part (xs : List ByteArray) (lo N : Nat) : sumSz ((xs.drop lo).take N) ≤ sumSz xs := by
  have h1 := sumSz_append (xs.take lo) (xs.drop lo)
  rw [List.take_append_drop] at h1
  have h2 := sumSz_append ((xs.drop lo).take N) ((xs.drop lo).drop N)
  rw [List.take_append_drop] at h2
  omega

theorem table9_ok (b off c : Nat) (xs : List ByteArray) (lo N : Nat) (hhi : lo + N ≤ xs.length) (w : World) (hc : Strs w b off xs) (hb : b < w.heap.size) (hn : xs.length ≤ 4096) (lo' hi : Int) (hlo2 : lo' = lo) (hhi2 : hi = (lo : Int) + N) :
    Calls Try.prog 9 #[.slice (some ⟨b, off, none⟩) xs.length c, .int .i64 lo', .int .i64 hi] w fun e w' => ∃ t, e = .returned (.pointer (some ⟨t, 0, none⟩)) ∧ Below w.heap.size w w' ∧ TabOK w' w.heap.size t ((xs.drop lo).take N) := by
  subst hlo2
  refine (table9 b off c xs lo N hhi w hc hb hn hi hhi2).mono ?_
  rintro e w' ⟨t, rfl, hbel, ht, htab, hown⟩
  have hl : ((xs.drop lo).take N).length = N := by simp; omega
  refine ⟨t, rfl, hbel, by omega, w.heap.size, (hown.lt _ rfl).2, by omega, ?_, ?_⟩
  · rw [hl]; exact htab
  · rw [hl]; exact hown

theorem table9_none (a : Option Addr) (c : Nat) (w : World) :
    Calls Try.prog 9 #[.slice a 0 c, .int .i64 0, .int .i64 0] w fun e w' => ∃ t, e = .returned (.pointer (some ⟨t, 0, none⟩)) ∧ Below w.heap.size w w' ∧ TabOK w' w.heap.size t [] := by
  obtain ⟨i0, hi0, hz0, hz1, hz2⟩ := info_parts Try.info36
  go_enter Try.func9, Try.ntmps9
  go_wp2_with (at_make; refine wpList_make_own _ rfl _ _ 31 rfl w.heap.size 36 i0 _ 9 Try.underlying31 hi0 hz0 hz1 _ _ _ 0 rfl rfl (by omega) ?b2 ?b3 (Nat.le_refl _) ?_)
  case b2 => rw [hz2]; omega
  case b3 => unfold maxLen; omega
  intro w0 hown0 hgrow0
  go_wp2
  go_loopw [7, 8] (fun v i wr => i = .int .i64 0 ∧ v = .slice (some ⟨w.heap.size, 0, none⟩) 0 0 ∧ wr = w0) (fun _ _ _ => 0)
  case atStart => exact ⟨rfl, rfl, rfl⟩
  case round =>
    obtain ⟨rfl, rfl, rfl⟩ := hrel
    have hnx : Below w.heap.size w wr := (Below.refl _ _).grown hgrow0 (Nat.le_refl _) (fun k h => by cases h)
    have hsz := hnx.size
    go_wp2_with fail
    refine (newTab14 _ _ _ _ rfl _).mono ?_
    rintro e w2 ⟨rfl, rfl⟩
    go_wp2_with fail
    go_ret
    have hlt := (hown0.lt w.heap.size rfl).2
    exact ⟨wr.heap.size, rfl, hnx.alloc hsz _, by omega, w.heap.size, by simp; omega, by omega, heap_alloc_last wr _, hown0.alloc _⟩

/-! ### The plain laws -/
theorem join_append (sep : List UInt8) : ∀ (l m : List (List UInt8)), l ≠ [] → m ≠ [] → Lib.join (l ++ m) sep = Lib.join l sep ++ sep ++ Lib.join m sep := by
  intro l m hl hm
  cases l with
  | nil => exact absurd rfl hl
  | cons x l =>
    cases m with
    | nil => exact absurd rfl hm
    | cons y m =>
      rw [List.cons_append, Lib.join_cons, Lib.join_cons, Lib.join_cons]
      simp [Lib.joinTail, List.append_assoc]
theorem nt_pos (l : List ByteArray) (h : l ≠ []) : (nt l).data.toList = Lib.join (l.map (·.data.toList)) sepText.data.toList := by
  cases l with
  | nil => exact absurd rfl h
  | cons y r => simp [nt]
theorem ext_data {a b : ByteArray} (h : a.data.toList = b.data.toList) : a = b := by
  cases a; cases b; congr 1; exact Array.toList_inj.1 h
theorem nt_cut (xs : List ByteArray) (k : Nat) (h0 : 0 < k) (h1 : k < xs.length) : nt xs = nt (xs.take k) ++ sepText ++ nt (xs.drop k) := by
  have n1 : xs.take k ≠ [] := by rw [← List.length_pos_iff, List.length_take]; omega
  have n2 : xs.drop k ≠ [] := by rw [← List.length_pos_iff, List.length_drop]; omega
  have n0 : xs ≠ [] := by rw [← List.length_pos_iff]; omega
  apply ext_data
  rw [ByteArray.data_append, ByteArray.data_append, Array.toList_append, Array.toList_append, nt_pos _ n1, nt_pos _ n2, nt_pos _ n0]
  conv => lhs; rw [← List.take_append_drop k xs, List.map_append]
  rw [join_append _ _ _ (by simpa using n1) (by simpa using n2)]
theorem nt_one (s : ByteArray) : nt [s] = s := by
  apply ext_data
  rw [nt_pos _ (by simp)]
  simp [Lib.join_one]
theorem nt_size (ys : List ByteArray) : (nt ys).size ≤ 2 * ys.length + sumSz ys + 4 := by
  cases ys with
  | nil =>
    have h : (nt []).size = 4 := rfl
    omega
  | cons y r =>
    have h := join_len (y :: r)
    have h2 : (nt (y :: r)).size = (Lib.join ((y :: r).map (·.data.toList)) sepText.data.toList).length := by
      show (Lib.join ((y :: r).map (·.data.toList)) sepText.data.toList).toArray.size = _
      simp
    omega

/-! ### A slice of strings that came in -/
/-- It is nil; or it leads to a row of 'cap' strings, the first 'len' its elements. -/
def IsRowS (w : World) (a : Option Addr) (len cap : Nat) (ss : List ByteArray) : Prop :=
  (a = none ∧ len = 0 ∧ cap = 0 ∧ ss = []) ∨
  ∃ x, a = some x ∧ len ≤ cap ∧ cap ≤ maxLen ∧ ss.length = cap ∧ (∀ i, i < ss.length → w.cell? (x.add i) = some (.string (ss.getD i ByteArray.empty))) ∧ ∀ s ∈ ss, s.size ≤ maxLen

theorem IsRowS.open {w : World} {a : Option Addr} {len cap : Nat} {ss : List ByteArray} (h : IsRowS w a len cap ss) (h0 : 0 < len) :
    ∃ b off xs, a = some ⟨b, off, none⟩ ∧ len = xs.length ∧ Strs w b off xs ∧ Short xs ∧ b < w.heap.size ∧ xs.length ≤ maxLen := by
  rcases h with ⟨_, rfl, _, _⟩ | ⟨⟨b, off, spot⟩, rfl, hl, hm, hz, hcell, hwz⟩
  · omega
  have hspot : spot = none := by simpa [Addr.add] using World.cell?_spot (hcell 0 (by omega))
  subst hspot
  have hlen : (ss.take len).length = len := by rw [List.length_take]; omega
  refine ⟨b, off, ss.take len, rfl, hlen.symm, ?_, ?_, ?_, by omega⟩
  · intro j hj
    have h1 := hcell j (by omega)
    rw [add_plain] at h1
    rw [h1]
    simp [List.getD, show j < len from by omega]
  · intro s hs
    exact hwz s (List.mem_of_mem_take hs)
  · exact block_lt_of_cell (hcell 0 (by omega))
end Go.Proofs.Qxb6630621a
