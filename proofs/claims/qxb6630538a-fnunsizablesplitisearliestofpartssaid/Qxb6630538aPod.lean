/-
  The pod in memory (44 cells behind one name), the steps that make, copy and store it whole, the contract of Unsizable at a block that holds it; and the plain laws on ranks.
-/
import Derived.Test.Qxb6630538aBase
import Derived.Deep.WholeRow
import Derived.Laws.Rows
import Derived.Laws.Tables
namespace Go.Proofs.Qxb6630538a
open Go.ChangeShapes Go.WideShapes Go.ChangeAt Go.RowKit

def podCells (ns nm q : ByteArray) (m wi nc rc oo hpa pl zc : Bool) : Array Value :=
  #[.string ns, .string nm, .bool false, .bool oo, .string q, .string ⟨#[]⟩, .bool m, .bool wi, .bool nc, .bool rc, .bool pl,
    .bool zc, .bool hpa, .int .i64 0, .int .i64 0, .int .i64 0,
    .int .i64 0, .int .i64 0, .int .i64 0, .int .i64 0,
    .int .i64 0, .int .i64 0, .int .i64 0, .int .i64 0,
    .int .i64 0, .slice none 0 0, .slice none 0 0, .int .i64 0,
    .int .i64 0, .bool false, .int .i64 0, .int .i64 0,
    .int .i64 0, .bool false, .int .i64 0, .int .i64 0,
    .int .i64 0, .bool false, .int .i64 0, .int .i64 0,
    .int .i64 0, .bool false, .int .i64 0, .bool false]


theorem podCells_size (ns nm q : ByteArray) (m wi nc rc oo hpa pl zc : Bool) : (podCells ns nm q m wi nc rc oo hpa pl zc).size = 44 := rfl
theorem podCells_one (ns nm q : ByteArray) (m wi nc rc oo hpa pl zc : Bool) : (podCells ns nm q m wi nc rc oo hpa pl zc).all (·.oneCell') = true := by kernel_rfl
theorem heap_cell (w : World) (c : Array Value) (t : TypeId) (j : Nat) : (w.alloc (.cells c t)).cell? ⟨w.heap.size, j, none⟩ = c[j]? :=
  cell_of_row _ _ j c t (0, 0) (heap_alloc_last w _)
theorem size35 : (Try.prog.info? 35).map (·.size) = some 44 := by kernel_rfl

theorem step_build {ops : Array Oper} {rest : List Oper} {o : Oper} {a : Act} {w : World} {Q : Exit → Act → World → Prop} (hg : o.guard = none) (parts : Array (Nat × Operand)) (ho : o.op = .build 35 parts)
    (cells : Array Value) (hf : Try.prog.built 35 (parts.map fun (i, x) => (i, a.eval x)).toList = some cells)
    (h : wpList Try.prog ops Q rest (a.put o.dst (.agg cells)) w) : wpList Try.prog ops Q (o :: rest) a w :=
  wpList_build hg 35 parts ho (by rw [hf]; rfl) (by rw [hf]; exact h)

theorem step_store {ops : Array Oper} {rest : List Oper} {o : Oper} {a : Act} {w : World} {Q : Exit → Act → World → Prop} (hgd : o.guard = none) (x y : Operand) (ho : o.op = .store 35 x y)
    (g : Nat) (hx : a.eval x = .pointer (some ⟨g, 0, none⟩)) (hgz : g = w.heap.size) (old cells : Array Value) (hy : a.eval y = .agg cells)
    (hold : old.size = 44) (hsz : cells.size = 44) (h1 : cells.all (·.oneCell') = true)
    (h : wpList Try.prog ops Q rest (a.put o.dst undef) (w.alloc (.cells cells 35))) : wpList Try.prog ops Q (o :: rest) a (w.alloc (.cells old 35)) := by
  subst hgz
  refine wpList_store_row hgd 35 x y ho _ cells hx hy 35 old (heap_alloc_last w _) (by rw [hsz]; exact size35) (by omega) h1 ?_
  rw [World.setRow_alloc_new]
  exact h

theorem step_load {ops : Array Oper} {rest : List Oper} {o : Oper} {a : Act} {w : World} {Q : Exit → Act → World → Prop} (hgd : o.guard = none) (x : Operand) (ho : o.op = .load 35 x)
    (g : Nat) (hx : a.eval x = .pointer (some ⟨g, 0, none⟩)) (hgz : g = w.heap.size) (cells : Array Value)
    (hsz : cells.size = 44)
    (h : wpList Try.prog ops Q rest (a.put o.dst (.agg cells)) (w.alloc (.cells cells 35))) : wpList Try.prog ops Q (o :: rest) a (w.alloc (.cells cells 35)) := by
  subst hgz
  exact wpList_load_row hgd 35 x ho _ hx 35 cells (0, 0) _ (heap_alloc_last w _) Try.underlying35 rfl (by rw [hsz]; exact size35) h


theorem uns_row (ns nm q : ByteArray) (m wi nc rc oo hpa pl zc : Bool) (b : Nat) (w : World) (hb : w.heap[b]? = some (.cells (podCells ns nm q m wi nc rc oo hpa pl zc) 35 (0, 0))) :
    Calls Try.prog 6 #[.pointer (some ⟨b, 0, none⟩)] w fun e w' => e = .returned (.string (rtext (uns q m wi nc rc oo hpa pl zc))) ∧ w' = w :=
  uns_any q m wi nc rc oo hpa pl zc b w ((cell_of_row _ _ _ _ _ _ hb).trans rfl) ((cell_of_row _ _ _ _ _ _ hb).trans rfl) ((cell_of_row _ _ _ _ _ _ hb).trans rfl) ((cell_of_row _ _ _ _ _ _ hb).trans rfl) ((cell_of_row _ _ _ _ _ _ hb).trans rfl)
    ((cell_of_row _ _ _ _ _ _ hb).trans rfl) ((cell_of_row _ _ _ _ _ _ hb).trans rfl) ((cell_of_row _ _ _ _ _ _ hb).trans rfl) ((cell_of_row _ _ _ _ _ _ hb).trans rfl)


/-! ### The plain laws -/
def unsB (g b m wi nc rc oo hpa pl zc : Bool) : Nat :=
  if m then 0 else if wi then 1 else if nc then 2 else if rc then 3 else if oo then 4 else if hpa then 5
  else if g then 6 else if b then (if pl then 8 else if zc then 9 else 10) else 7
theorem uns_eq (q : ByteArray) (m wi nc rc oo hpa pl zc : Bool) : uns q m wi nc rc oo hpa pl zc = unsB (q.toList == [71, 117, 97, 114, 97, 110, 116, 101, 101, 100]) (q.toList == [66, 117, 114, 115, 116, 97, 98, 108, 101]) m wi nc rc oo hpa pl zc := rfl
theorem guar_is : (guar.toList == [71, 117, 97, 114, 97, 110, 116, 101, 101, 100]) = true := by decide +kernel
theorem burst_is : (burst.toList == [66, 117, 114, 115, 116, 97, 98, 108, 101]) = true := by decide +kernel
theorem burst_not : (burst.toList == [71, 117, 97, 114, 97, 110, 116, 101, 101, 100]) = false := by decide +kernel
theorem lawB0 : ∀ g b m wi nc rc oo hpa pl zc : Bool, (if 0 < unsB g b m wi nc rc oo hpa pl zc then 0 else unsB g b m wi nc rc oo hpa pl zc) = unsB g b true wi nc rc oo hpa pl zc := by decide +kernel
theorem law0 (q : ByteArray) (m wi nc rc oo hpa pl zc : Bool) : (if 0 < uns q m wi nc rc oo hpa pl zc then 0 else uns q m wi nc rc oo hpa pl zc) = uns q true wi nc rc oo hpa pl zc := by
  rw [uns_eq, uns_eq]; exact lawB0 _ _ _ _ _ _ _ _ _ _
theorem lawB1 : ∀ g b m wi nc rc oo hpa pl zc : Bool, (if 1 < unsB g b m wi nc rc oo hpa pl zc then 1 else unsB g b m wi nc rc oo hpa pl zc) = unsB g b m true nc rc oo hpa pl zc := by decide +kernel
theorem law1 (q : ByteArray) (m wi nc rc oo hpa pl zc : Bool) : (if 1 < uns q m wi nc rc oo hpa pl zc then 1 else uns q m wi nc rc oo hpa pl zc) = uns q m true nc rc oo hpa pl zc := by
  rw [uns_eq, uns_eq]; exact lawB1 _ _ _ _ _ _ _ _ _ _
theorem lawB2 : ∀ g b m wi nc rc oo hpa pl zc : Bool, (if 2 < unsB g b m wi nc rc oo hpa pl zc then 2 else unsB g b m wi nc rc oo hpa pl zc) = unsB g b m wi true rc oo hpa pl zc := by decide +kernel
theorem law2 (q : ByteArray) (m wi nc rc oo hpa pl zc : Bool) : (if 2 < uns q m wi nc rc oo hpa pl zc then 2 else uns q m wi nc rc oo hpa pl zc) = uns q m wi true rc oo hpa pl zc := by
  rw [uns_eq, uns_eq]; exact lawB2 _ _ _ _ _ _ _ _ _ _
theorem lawB3 : ∀ g b m wi nc rc oo hpa pl zc : Bool, (if 3 < unsB g b m wi nc rc oo hpa pl zc then 3 else unsB g b m wi nc rc oo hpa pl zc) = unsB g b m wi nc true oo hpa pl zc := by decide +kernel
theorem law3 (q : ByteArray) (m wi nc rc oo hpa pl zc : Bool) : (if 3 < uns q m wi nc rc oo hpa pl zc then 3 else uns q m wi nc rc oo hpa pl zc) = uns q m wi nc true oo hpa pl zc := by
  rw [uns_eq, uns_eq]; exact lawB3 _ _ _ _ _ _ _ _ _ _
theorem lawB4 : ∀ g b m wi nc rc oo hpa pl zc : Bool, (if 4 < unsB g b m wi nc rc oo hpa pl zc then 4 else unsB g b m wi nc rc oo hpa pl zc) = unsB g b m wi nc rc true hpa pl zc := by decide +kernel
theorem law4 (q : ByteArray) (m wi nc rc oo hpa pl zc : Bool) : (if 4 < uns q m wi nc rc oo hpa pl zc then 4 else uns q m wi nc rc oo hpa pl zc) = uns q m wi nc rc true hpa pl zc := by
  rw [uns_eq, uns_eq]; exact lawB4 _ _ _ _ _ _ _ _ _ _
theorem lawB5 : ∀ g b m wi nc rc oo hpa pl zc : Bool, (if 5 < unsB g b m wi nc rc oo hpa pl zc then 5 else unsB g b m wi nc rc oo hpa pl zc) = unsB g b m wi nc rc oo true pl zc := by decide +kernel
theorem law5 (q : ByteArray) (m wi nc rc oo hpa pl zc : Bool) : (if 5 < uns q m wi nc rc oo hpa pl zc then 5 else uns q m wi nc rc oo hpa pl zc) = uns q m wi nc rc oo true pl zc := by
  rw [uns_eq, uns_eq]; exact lawB5 _ _ _ _ _ _ _ _ _ _
theorem lawB6 : ∀ g b m wi nc rc oo hpa pl zc : Bool, (if 8 < unsB g b m wi nc rc oo hpa pl zc then 8 else unsB g b m wi nc rc oo hpa pl zc) = unsB g b m wi nc rc oo hpa true zc := by decide +kernel
theorem law6 (q : ByteArray) (m wi nc rc oo hpa pl zc : Bool) : (if 8 < uns q m wi nc rc oo hpa pl zc then 8 else uns q m wi nc rc oo hpa pl zc) = uns q m wi nc rc oo hpa true zc := by
  rw [uns_eq, uns_eq]; exact lawB6 _ _ _ _ _ _ _ _ _ _
theorem lawB7 : ∀ g b m wi nc rc oo hpa pl zc : Bool, (if 9 < unsB g b m wi nc rc oo hpa pl zc then 9 else unsB g b m wi nc rc oo hpa pl zc) = unsB g b m wi nc rc oo hpa pl true := by decide +kernel
theorem law7 (q : ByteArray) (m wi nc rc oo hpa pl zc : Bool) : (if 9 < uns q m wi nc rc oo hpa pl zc then 9 else uns q m wi nc rc oo hpa pl zc) = uns q m wi nc rc oo hpa pl true := by
  rw [uns_eq, uns_eq]; exact lawB7 _ _ _ _ _ _ _ _ _ _
theorem lawB8 : ∀ g b c m wi nc rc oo hpa pl zc : Bool, (if 6 < unsB g b m wi nc rc oo hpa pl zc then 6 else unsB g b m wi nc rc oo hpa pl zc) = unsB true c m wi nc rc oo hpa pl zc := by decide +kernel
theorem law8 (q : ByteArray) (m wi nc rc oo hpa pl zc : Bool) : (if 6 < uns q m wi nc rc oo hpa pl zc then 6 else uns q m wi nc rc oo hpa pl zc) = uns guar m wi nc rc oo hpa pl zc := by
  rw [uns_eq, uns_eq, guar_is]; exact lawB8 _ _ _ _ _ _ _ _ _ _ _
end Go.Proofs.Qxb6630538a
