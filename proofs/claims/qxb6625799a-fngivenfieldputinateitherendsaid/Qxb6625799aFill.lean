/-
  Rows of the law's own that are filled place by place.
-/
import Derived.Test.Qxb6625799aPlain
import Derived.Laws.CopyOwn
namespace Go.Proofs.Qxb6625799a
open Go.ChangeShapes Go.WideShapes Go.ChangeAt Go.RowKit
set_option linter.unusedVariables false

theorem Try.info5 : (Try.prog.info? 5).map (fun i => (i.zero, i.size, i.bytes)) = some (some (.int .u8 0), 1, 1) := by kernel_rfl
theorem Try.info3 : (Try.prog.info? 3).map (fun i => (i.zero, i.size, i.bytes)) = some (some (.int .i64 0), 1, 8) := by kernel_rfl

/-- The row at block g has as many places as L; the first k hold L's first k numbers. -/
def Fill (w : World) (g : Nat) (e : TypeId) (kd : IntKind) (L : List Int) (k : Nat) : Prop :=
  ∃ cur : Array Value, w.heap[g]? = some (.cells cur e (0, 0)) ∧ cur.size = L.length ∧ ∀ j, j < k → cur[j]? = some (.int kd (L.getD j 0))

theorem Fill.there {w : World} {g : Nat} {e : TypeId} {kd : IntKind} {L : List Int} {k : Nat} (h : Fill w g e kd L k) (j : Nat) (hj : j < L.length) : (∃ x, w.cell? ⟨g, j, none⟩ = some x) ∧ w.frozen? ⟨g, j, none⟩ = false := by
  obtain ⟨cur, h1, h2, h3⟩ := h
  exact ⟨⟨cur[j], (cell_of_row _ _ _ _ _ _ h1).trans (by simp)⟩, frozen_of_row _ _ _ _ _ h1⟩
theorem Fill.lt {w : World} {g : Nat} {e : TypeId} {kd : IntKind} {L : List Int} {k : Nat} (h : Fill w g e kd L k) : g < w.heap.size := by
  obtain ⟨cur, h1, _⟩ := h
  by_cases hlt : g < w.heap.size
  · exact hlt
  · rw [Array.getElem?_eq_none (by omega)] at h1; cases h1
theorem Fill.step {w : World} {g : Nat} {e : TypeId} {kd : IntKind} {L : List Int} {k : Nat} (h : Fill w g e kd L k) (hk : k < L.length) (v : Int) (hv : v = L.getD k 0) : Fill (w.setCell ⟨g, k, none⟩ (.int kd v)) g e kd L (k + 1) := by
  obtain ⟨cur, h1, h2, h3⟩ := h
  subst hv
  refine ⟨_, heap_setCell_same w g k cur e _ h1, by simpa using h2, fun j hj => ?_⟩
  by_cases e : j = k
  · subst e
    rw [Array.getElem?_setIfInBounds_self_of_lt (by omega)]
  · rw [Array.getElem?_setIfInBounds_ne (by omega)]
    exact h3 j (by omega)
theorem Fill.other {w : World} {g : Nat} {e : TypeId} {kd : IntKind} {L : List Int} {k : Nat} (h : Fill w g e kd L k) (a : Addr) (u : Value) (hne : g ≠ a.block) : Fill (w.setCell a u) g e kd L k := by
  obtain ⟨cur, h1, h2, h3⟩ := h
  exact ⟨cur, (heap_setCell_other w a g u hne).trans h1, h2, h3⟩
theorem Fill.below {w w' : World} {g B : Nat} {e : TypeId} {kd : IntKind} {L : List Int} {k : Nat} (h : Fill w g e kd L k) (hb : Below B w w') (hg : g < B) : Fill w' g e kd L k := by
  obtain ⟨cur, h1, h2, h3⟩ := h
  exact ⟨cur, (hb.block g hg).trans h1, h2, h3⟩
theorem Fill.ofMade {w : World} {B g n : Nat} {e : TypeId} {xs : List Value} (kd : IntKind) (L : List Int) (h : w.ownsRow B e 1 (.slice (some ⟨g, 0, none⟩) n n) n xs) (hL : L.length = n) : Fill w g e kd L 0 := by
  rcases h.2 with ⟨h, _⟩ | ⟨g', cap, cur, hv, h2, h3, h4, h5, h6, h7⟩
  · cases h
  · simp at hv
    obtain ⟨rfl, rfl⟩ := hv
    exact ⟨cur, h3, by omega, fun j hj => by omega⟩
theorem Fill.cells {w : World} {g : Nat} {e : TypeId} {kd : IntKind} {L : List Int} (h : Fill w g e kd L L.length) : ∀ j, j < L.length → w.cell? ⟨g, 0 + j, none⟩ = some (.int kd (L.getD j 0)) := by
  obtain ⟨cur, h1, h2, h3⟩ := h
  intro j hj
  rw [Nat.zero_add]
  exact (cell_of_row _ _ _ _ _ _ h1).trans (h3 j hj)
theorem Fill.row {w : World} {g : Nat} {e : TypeId} {kd : IntKind} {L : List Int} (h : Fill w g e kd L L.length) : Row kd w (some ⟨g, 0, none⟩) L :=
  .inr ⟨g, 0, rfl, h.lt, h.cells⟩
theorem Fill.src {w : World} {g : Nat} {L : List Int} (h : Fill w g 5 .u8 L L.length) (hL : L.length ≤ maxLen) : Src w (some ⟨g, 0, none⟩) L.length L.length L :=
  .inr ⟨g, 0, rfl, h.lt, rfl, Nat.le_refl _, hL, h.cells⟩
theorem Row.below {k : IntKind} {w w' : World} {a : Option Addr} {zs : List Int} (h : Row k w a zs) (hb : Below w.heap.size w w') : Row k w' a zs := by
  rcases h with rfl | ⟨b, off, rfl, h1, h2⟩
  · exact .inl rfl
  · exact .inr ⟨b, off, rfl, Nat.lt_of_lt_of_le h1 hb.size, fun j hj => (hb.cell (p := ⟨b, off + j, none⟩) h1).trans (h2 j hj)⟩

/-- The row behind a copy of all. -/
theorem fill_copied {w : World} {g : Nat} {e : TypeId} {kd : IntKind} {L : List Int} {cur : List Value} (hc : cur.length = L.length) (h : w.heap[g]? = some (.cells (splice cur 0 (L.map (Value.int kd))).toArray e (0, 0))) : Fill w g e kd L L.length := by
  refine ⟨_, h, ?_, ?_⟩
  · simp [length_splice, hc]
  · intro j hj
    have e1 : splice cur 0 (L.map (Value.int kd)) = L.map (Value.int kd) := by
      unfold splice
      rw [List.take_zero, List.nil_append, List.drop_of_length_le (by simp; omega), List.append_nil]
    rw [e1]
    simp [List.getD, hj]
/-- A slice that came in: nil and empty, or its numbers at its address. -/
def Came (kd : IntKind) (w : World) (a : Option Addr) (c : Nat) (zs : List Int) : Prop := Row kd w a zs ∧ (a = none → zs = [] ∧ c = 0)
theorem Came.below {kd : IntKind} {w w' : World} {a : Option Addr} {c : Nat} {zs : List Int} (h : Came kd w a c zs) (hb : Below w.heap.size w w') : Came kd w' a c zs := ⟨h.1.below hb, h.2⟩
end Go.Proofs.Qxb6625799a
