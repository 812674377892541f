/-
  The law's own seven rows, kept together.
-/
import Derived.Test.Qxb6625799aFill
namespace Go.Proofs.Qxb6625799a
open Go.ChangeShapes Go.WideShapes Go.ChangeAt Go.RowKit
set_option linter.unusedVariables false

theorem Fill.rowk {w : World} {g : Nat} {e : TypeId} {kd : IntKind} {L : List Int} {k : Nat} (h : Fill w g e kd L k) (hk : k = L.length) : Row kd w (some ⟨g, 0, none⟩) L := by
  subst hk
  exact h.row

/-- The text's row is full; of the six rows of numbers the first k1 .. k6 places are. -/
structure Bun (w5 w : World) (gs g1 g2 g3 g4 g5 g6 : Nat) (LS L1 L2 L3 L4 L5 L6 : List Int) (k1 k2 k3 k4 k5 k6 : Nat) : Prop where
  below : Below w5.heap.size w5 w
  o0 : w5.heap.size ≤ gs
  o1 : gs < g1
  o2 : g1 < g2
  o3 : g2 < g3
  o4 : g3 < g4
  o5 : g4 < g5
  o6 : g5 < g6
  fs : Fill w gs 5 .u8 LS LS.length
  f1 : Fill w g1 3 .i64 L1 k1
  f2 : Fill w g2 3 .i64 L2 k2
  f3 : Fill w g3 3 .i64 L3 k3
  f4 : Fill w g4 3 .i64 L4 k4
  f5 : Fill w g5 3 .i64 L5 k5
  f6 : Fill w g6 3 .i64 L6 k6
theorem Bun.set1 {w5 w : World} {gs g1 g2 g3 g4 g5 g6 : Nat} {LS L1 L2 L3 L4 L5 L6 : List Int} {k1 k2 k3 k4 k5 k6 : Nat} (h : Bun w5 w gs g1 g2 g3 g4 g5 g6 LS L1 L2 L3 L4 L5 L6 k1 k2 k3 k4 k5 k6) (hk : k1 < L1.length) (v : Int) (hv : v = L1.getD k1 0) :
    Bun w5 (w.setCell ⟨g1, k1, none⟩ (.int .i64 v)) gs g1 g2 g3 g4 g5 g6 LS L1 L2 L3 L4 L5 L6 (k1 + 1) k2 k3 k4 k5 k6 := by
  obtain ⟨hb, o0, o1, o2, o3, o4, o5, o6, fs, f1, f2, f3, f4, f5, f6⟩ := h
  exact ⟨hb.setCell (by show _ ≤ g1; omega) _, o0, o1, o2, o3, o4, o5, o6, fs.other _ _ (by show gs ≠ g1; omega), f1.step hk v hv, f2.other _ _ (by show g2 ≠ g1; omega), f3.other _ _ (by show g3 ≠ g1; omega), f4.other _ _ (by show g4 ≠ g1; omega), f5.other _ _ (by show g5 ≠ g1; omega), f6.other _ _ (by show g6 ≠ g1; omega)⟩
theorem Bun.set2 {w5 w : World} {gs g1 g2 g3 g4 g5 g6 : Nat} {LS L1 L2 L3 L4 L5 L6 : List Int} {k1 k2 k3 k4 k5 k6 : Nat} (h : Bun w5 w gs g1 g2 g3 g4 g5 g6 LS L1 L2 L3 L4 L5 L6 k1 k2 k3 k4 k5 k6) (hk : k2 < L2.length) (v : Int) (hv : v = L2.getD k2 0) :
    Bun w5 (w.setCell ⟨g2, k2, none⟩ (.int .i64 v)) gs g1 g2 g3 g4 g5 g6 LS L1 L2 L3 L4 L5 L6 k1 (k2 + 1) k3 k4 k5 k6 := by
  obtain ⟨hb, o0, o1, o2, o3, o4, o5, o6, fs, f1, f2, f3, f4, f5, f6⟩ := h
  exact ⟨hb.setCell (by show _ ≤ g2; omega) _, o0, o1, o2, o3, o4, o5, o6, fs.other _ _ (by show gs ≠ g2; omega), f1.other _ _ (by show g1 ≠ g2; omega), f2.step hk v hv, f3.other _ _ (by show g3 ≠ g2; omega), f4.other _ _ (by show g4 ≠ g2; omega), f5.other _ _ (by show g5 ≠ g2; omega), f6.other _ _ (by show g6 ≠ g2; omega)⟩
theorem Bun.set3 {w5 w : World} {gs g1 g2 g3 g4 g5 g6 : Nat} {LS L1 L2 L3 L4 L5 L6 : List Int} {k1 k2 k3 k4 k5 k6 : Nat} (h : Bun w5 w gs g1 g2 g3 g4 g5 g6 LS L1 L2 L3 L4 L5 L6 k1 k2 k3 k4 k5 k6) (hk : k3 < L3.length) (v : Int) (hv : v = L3.getD k3 0) :
    Bun w5 (w.setCell ⟨g3, k3, none⟩ (.int .i64 v)) gs g1 g2 g3 g4 g5 g6 LS L1 L2 L3 L4 L5 L6 k1 k2 (k3 + 1) k4 k5 k6 := by
  obtain ⟨hb, o0, o1, o2, o3, o4, o5, o6, fs, f1, f2, f3, f4, f5, f6⟩ := h
  exact ⟨hb.setCell (by show _ ≤ g3; omega) _, o0, o1, o2, o3, o4, o5, o6, fs.other _ _ (by show gs ≠ g3; omega), f1.other _ _ (by show g1 ≠ g3; omega), f2.other _ _ (by show g2 ≠ g3; omega), f3.step hk v hv, f4.other _ _ (by show g4 ≠ g3; omega), f5.other _ _ (by show g5 ≠ g3; omega), f6.other _ _ (by show g6 ≠ g3; omega)⟩
theorem Bun.set4 {w5 w : World} {gs g1 g2 g3 g4 g5 g6 : Nat} {LS L1 L2 L3 L4 L5 L6 : List Int} {k1 k2 k3 k4 k5 k6 : Nat} (h : Bun w5 w gs g1 g2 g3 g4 g5 g6 LS L1 L2 L3 L4 L5 L6 k1 k2 k3 k4 k5 k6) (hk : k4 < L4.length) (v : Int) (hv : v = L4.getD k4 0) :
    Bun w5 (w.setCell ⟨g4, k4, none⟩ (.int .i64 v)) gs g1 g2 g3 g4 g5 g6 LS L1 L2 L3 L4 L5 L6 k1 k2 k3 (k4 + 1) k5 k6 := by
  obtain ⟨hb, o0, o1, o2, o3, o4, o5, o6, fs, f1, f2, f3, f4, f5, f6⟩ := h
  exact ⟨hb.setCell (by show _ ≤ g4; omega) _, o0, o1, o2, o3, o4, o5, o6, fs.other _ _ (by show gs ≠ g4; omega), f1.other _ _ (by show g1 ≠ g4; omega), f2.other _ _ (by show g2 ≠ g4; omega), f3.other _ _ (by show g3 ≠ g4; omega), f4.step hk v hv, f5.other _ _ (by show g5 ≠ g4; omega), f6.other _ _ (by show g6 ≠ g4; omega)⟩
theorem Bun.set5 {w5 w : World} {gs g1 g2 g3 g4 g5 g6 : Nat} {LS L1 L2 L3 L4 L5 L6 : List Int} {k1 k2 k3 k4 k5 k6 : Nat} (h : Bun w5 w gs g1 g2 g3 g4 g5 g6 LS L1 L2 L3 L4 L5 L6 k1 k2 k3 k4 k5 k6) (hk : k5 < L5.length) (v : Int) (hv : v = L5.getD k5 0) :
    Bun w5 (w.setCell ⟨g5, k5, none⟩ (.int .i64 v)) gs g1 g2 g3 g4 g5 g6 LS L1 L2 L3 L4 L5 L6 k1 k2 k3 k4 (k5 + 1) k6 := by
  obtain ⟨hb, o0, o1, o2, o3, o4, o5, o6, fs, f1, f2, f3, f4, f5, f6⟩ := h
  exact ⟨hb.setCell (by show _ ≤ g5; omega) _, o0, o1, o2, o3, o4, o5, o6, fs.other _ _ (by show gs ≠ g5; omega), f1.other _ _ (by show g1 ≠ g5; omega), f2.other _ _ (by show g2 ≠ g5; omega), f3.other _ _ (by show g3 ≠ g5; omega), f4.other _ _ (by show g4 ≠ g5; omega), f5.step hk v hv, f6.other _ _ (by show g6 ≠ g5; omega)⟩
theorem Bun.set6 {w5 w : World} {gs g1 g2 g3 g4 g5 g6 : Nat} {LS L1 L2 L3 L4 L5 L6 : List Int} {k1 k2 k3 k4 k5 k6 : Nat} (h : Bun w5 w gs g1 g2 g3 g4 g5 g6 LS L1 L2 L3 L4 L5 L6 k1 k2 k3 k4 k5 k6) (hk : k6 < L6.length) (v : Int) (hv : v = L6.getD k6 0) :
    Bun w5 (w.setCell ⟨g6, k6, none⟩ (.int .i64 v)) gs g1 g2 g3 g4 g5 g6 LS L1 L2 L3 L4 L5 L6 k1 k2 k3 k4 k5 (k6 + 1) := by
  obtain ⟨hb, o0, o1, o2, o3, o4, o5, o6, fs, f1, f2, f3, f4, f5, f6⟩ := h
  exact ⟨hb.setCell (by show _ ≤ g6; omega) _, o0, o1, o2, o3, o4, o5, o6, fs.other _ _ (by show gs ≠ g6; omega), f1.other _ _ (by show g1 ≠ g6; omega), f2.other _ _ (by show g2 ≠ g6; omega), f3.other _ _ (by show g3 ≠ g6; omega), f4.other _ _ (by show g4 ≠ g6; omega), f5.other _ _ (by show g5 ≠ g6; omega), f6.step hk v hv⟩
theorem Bun.later {w5 w w' : World} {gs g1 g2 g3 g4 g5 g6 : Nat} {LS L1 L2 L3 L4 L5 L6 : List Int} {k1 k2 k3 k4 k5 k6 : Nat} (h : Bun w5 w gs g1 g2 g3 g4 g5 g6 LS L1 L2 L3 L4 L5 L6 k1 k2 k3 k4 k5 k6) (hb' : Below w.heap.size w w') : Bun w5 w' gs g1 g2 g3 g4 g5 g6 LS L1 L2 L3 L4 L5 L6 k1 k2 k3 k4 k5 k6 := by
  obtain ⟨hb, o0, o1, o2, o3, o4, o5, o6, fs, f1, f2, f3, f4, f5, f6⟩ := h
  exact ⟨hb.trans (hb'.mono hb.size), o0, o1, o2, o3, o4, o5, o6, fs.below hb' fs.lt, f1.below hb' f1.lt, f2.below hb' f2.lt, f3.below hb' f3.lt, f4.below hb' f4.lt, f5.below hb' f5.lt, f6.below hb' f6.lt⟩
end Go.Proofs.Qxb6625799a
