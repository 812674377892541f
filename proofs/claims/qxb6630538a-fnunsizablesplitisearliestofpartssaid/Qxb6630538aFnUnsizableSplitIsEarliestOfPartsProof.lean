/-
  'Rows.FnUnsizableSplitIsEarliestOfPartsSaid': the walk by hand, the frame by the kit's program (proof-skeleton.mjs).
-/
import Derived.Test.Qxb6630538aRows
import Derived.Test.Qxb6630538aBase
import Derived.Test.Qxb6630538aPod
import Derived.Deep.Cut
import Derived.Deep.CutRange
import Derived.Deep.Light
import Derived.WalkKit
import Derived.ProofKit
import Derived.OpenShut
import Derived.ShutString
namespace Go.Proofs.Qxb6630538a.fnUnsizableSplitIsEarliestOfParts
open Go.ChangeShapes Go.WideShapes Go.ChangeAt Go.RowKit
open Go.ChangeMaps (open_string shut_string)
set_option linter.unusedVariables false      -- a walk need not use every 'w<i>' (that an integer argument fits its kind)

theorem own : ownKnob Try.prog.godebug = none := by kernel_rfl


/-! ### The length guard: some bool, nothing turned. -/
set_option maxHeartbeats 1000000 in
theorem bytes_any (a0 a1 a2 : ByteArray) (a3 a4 a5 a6 a7 a8 a9 a10 : Bool) (a11 : Int) (w0 : a0.size ≤ maxLen) (w1 : a1.size ≤ maxLen) (w2 : a2.size ≤ maxLen) (w : World) :
    Calls Try.prog 8 #[.string a0, .string a1, .string a2, .bool a3, .bool a4, .bool a5, .bool a6, .bool a7, .bool a8, .bool a9, .bool a10, .int .u16 a11] w fun e w' => (∃ r : Bool, e = .returned (.bool r)) ∧ w' = w := by
  unfold maxLen at w0 w1 w2
  go_enter Try.func8, Try.ntmps8
  go_wp2
  all_goals (go_ret; exact ⟨⟨_, rfl⟩, rfl⟩)

/-- What one flag has become in the two parts: one of them bears it, the other none. -/
def Part (a x y : Bool) : Prop := (x = a ∧ y = false) ∨ (x = false ∧ y = a)
def PartQ (q x y : ByteArray) : Prop := (x = q ∧ y = burst) ∨ (x = burst ∧ y = q)

theorem heap3_0 (w : World) (A B C : Obj) : (((w.alloc A).alloc B).alloc C).heap[w.heap.size]? = some A := by
  rw [heap_alloc_old _ _ (by simp; omega)]; exact heap_alloc2_old w A B
theorem heap3_1 (w : World) (A B C : Obj) : (((w.alloc A).alloc B).alloc C).heap[w.heap.size + 1]? = some B := by
  rw [heap_alloc_old _ _ (by simp)]; exact heap_alloc2_new w A B
theorem heap3_2 (w : World) (A B C : Obj) : (((w.alloc A).alloc B).alloc C).heap[w.heap.size + 1 + 1]? = some C := by
  have h := heap_alloc_new ((w.alloc A).alloc B) C
  have e : ((w.alloc A).alloc B).heap.size = w.heap.size + 1 + 1 := by simp
  rwa [e] at h


/-! ### The plain laws -/
theorem rtext_empty : ∀ n, n ≤ 10 → (rtext n).toList.isEmpty = decide (n = 10) := by
  intro n hn
  have hc : n = 0 ∨ n = 1 ∨ n = 2 ∨ n = 3 ∨ n = 4 ∨ n = 5 ∨ n = 6 ∨ n = 7 ∨ n = 8 ∨ n = 9 ∨ n = 10 := by omega
  rcases hc with rfl | rfl | rfl | rfl | rfl | rfl | rfl | rfl | rfl | rfl | rfl <;> decide +kernel

theorem refusedB0 : ∀ a3 a4 a5 a6 a7 a8 a9 a10 : Bool, (a3 || a4 || a5 || a6 || a7 || a8 || a9 || a10 || !true) = !decide (unsB false true a3 a4 a5 a6 a7 a8 a9 a10 = 10) := by decide +kernel
theorem refusedB1 : ∀ g a3 a4 a5 a6 a7 a8 a9 a10 : Bool, (a3 || a4 || a5 || a6 || a7 || a8 || a9 || a10 || !false) = !decide (unsB g false a3 a4 a5 a6 a7 a8 a9 a10 = 10) := by decide +kernel
theorem refusedLaw (a2 : ByteArray) (a3 a4 a5 a6 a7 a8 a9 a10 : Bool) :
    (a3 || a4 || a5 || a6 || a7 || a8 || a9 || a10 || !(a2.toList == [66, 117, 114, 115, 116, 97, 98, 108, 101])) = !decide (uns a2 a3 a4 a5 a6 a7 a8 a9 a10 = 10) := by
  rw [uns_eq]
  by_cases hb : (a2.toList == [66, 117, 114, 115, 116, 97, 98, 108, 101]) = true
  · have hg : (a2.toList == [71, 117, 97, 114, 97, 110, 116, 101, 101, 100]) = false := by
      rw [beq_iff_eq] at hb; rw [hb]; decide +kernel
    rw [hb, hg]
    exact refusedB0 a3 a4 a5 a6 a7 a8 a9 a10
  · have hb' : (a2.toList == [66, 117, 114, 115, 116, 97, 98, 108, 101]) = false := by simpa using hb
    rw [hb']
    exact refusedB1 _ a3 a4 a5 a6 a7 a8 a9 a10

def fr (r : Nat) (x : Bool) : Nat := if x then r else 10
def fq (g b : Bool) : Nat := if g then 6 else if b then 10 else 7
def fQ (q : ByteArray) : Nat := fq (q.toList == [71, 117, 97, 114, 97, 110, 116, 101, 101, 100]) (q.toList == [66, 117, 114, 115, 116, 97, 98, 108, 101])
theorem minB : ∀ g b m wi nc rc oo hpa pl zc : Bool, unsB g b m wi nc rc oo hpa pl zc =
    min (fr 0 m) (min (fr 1 wi) (min (fr 2 nc) (min (fr 3 rc) (min (fr 4 oo) (min (fr 5 hpa) (min (fq g b) (min (fr 8 pl) (fr 9 zc)))))))) := by decide +kernel
theorem minU (q : ByteArray) (m wi nc rc oo hpa pl zc : Bool) : uns q m wi nc rc oo hpa pl zc =
    min (fr 0 m) (min (fr 1 wi) (min (fr 2 nc) (min (fr 3 rc) (min (fr 4 oo) (min (fr 5 hpa) (min (fQ q) (min (fr 8 pl) (fr 9 zc)))))))) := by
  rw [uns_eq, minB]; rfl
theorem part_fr (r : Nat) (hr : r ≤ 10) {a x y : Bool} (h : Part a x y) : fr r a = min (fr r x) (fr r y) := by
  rcases h with ⟨rfl, rfl⟩ | ⟨rfl, rfl⟩
  · cases x <;> simp [fr] <;> omega
  · cases y <;> simp [fr] <;> omega
theorem fQ_burst : fQ burst = 10 := by decide +kernel
theorem fQ_le (q : ByteArray) : fQ q ≤ 10 := by unfold fQ fq; repeat' split
                                                all_goals omega
theorem part_fQ {q x y : ByteArray} (h : PartQ q x y) : fQ q = min (fQ x) (fQ y) := by
  rcases h with ⟨rfl, rfl⟩ | ⟨rfl, rfl⟩ <;> rw [fQ_burst]
  · have := fQ_le x; omega
  · have := fQ_le y; omega
theorem if_min (a b : Nat) : (if b < a then b else a) = min a b := by split <;> omega
theorem splitLaw (q xq yq : ByteArray) (m wi nc rc oo hpa pl zc x0 x1 x2 x3 x4 x5 x6 x7 y0 y1 y2 y3 y4 y5 y6 y7 : Bool) (pq : PartQ q xq yq)
    (p0 : Part m x0 y0) (p1 : Part wi x1 y1) (p2 : Part nc x2 y2) (p3 : Part rc x3 y3) (p4 : Part oo x4 y4) (p5 : Part hpa x5 y5) (p6 : Part pl x6 y6) (p7 : Part zc x7 y7) :
    (if uns yq y0 y1 y2 y3 y4 y5 y6 y7 < uns xq x0 x1 x2 x3 x4 x5 x6 x7 then uns yq y0 y1 y2 y3 y4 y5 y6 y7 else uns xq x0 x1 x2 x3 x4 x5 x6 x7) = uns q m wi nc rc oo hpa pl zc := by
  rw [if_min, minU q, minU xq, minU yq, part_fr 0 (by omega) p0, part_fr 1 (by omega) p1, part_fr 2 (by omega) p2, part_fr 3 (by omega) p3, part_fr 4 (by omega) p4, part_fr 5 (by omega) p5, part_fr 8 (by omega) p6, part_fr 9 (by omega) p7, part_fQ pq]
  ac_rfl
set_option maxRecDepth 100000 in
set_option maxHeartbeats 4000000 in
theorem walkOn (a0 a1 a2 : ByteArray) (a3 a4 a5 a6 a7 a8 a9 a10 : Bool) (a11 : Int) (w0 : a0.size ≤ 262144) (w1 : a1.size ≤ 262144) (w2 : a2.size ≤ 262144) (w : World) :
    Calls Try.prog 4 #[.string a0, .string a1, .string a2, .bool a3, .bool a4, .bool a5, .bool a6, .bool a7, .bool a8, .bool a9, .bool a10, .int .u16 a11] w fun e w' => e = .returned (.bool true) ∧ Grown w w' := by
  have hp := podCells_size
  go_enter Try.func4, Try.ntmps4
  go_wp2_with fail
  refine (bytes_any a0 a1 a2 a3 a4 a5 a6 a7 a8 a9 a10 _ (by unfold maxLen; omega) (by unfold maxLen; omega) (by unfold maxLen; omega) _).mono ?_
  rintro e w' ⟨⟨r, rfl⟩, rfl⟩
  cases r
  · go_wp2_with fail
    go_ret
    exact ⟨rfl, Grown.refl _⟩
  go_upto_if 75 with (first | (refine step_build rfl #[(0, _), (1, _), (4, _)] rfl (podCells a0 a1 burst false false false false false false false false) (by kernel_rfl) ?_) | (refine step_build rfl #[(0, _), (1, _), (4, _), (6, _), (7, _), (8, _), (9, _), (3, _), (12, _), (10, _), (11, _)] rfl (podCells a0 a1 a2 a3 a4 a5 a6 a7 a8 a9 a10) (by kernel_rfl) ?_) | (refine step_store rfl _ _ rfl _ rfl (by simp) _ _ rfl rfl rfl (podCells_one _ _ _ _ _ _ _ _ _ _ _) ?_))
  go_cut [] from 73 to 79 (fun wx => ∃ x0 y0, Part a3 x0 y0 ∧ wx = ((w'.alloc (.cells (podCells a0 a1 a2 a3 a4 a5 a6 a7 a8 a9 a10) 35)).alloc (.cells (podCells a0 a1 burst x0 false false false false false false false) 35)).alloc (.cells (podCells a0 a1 burst y0 false false false false false false false) 35))
  case first =>
    go_wp2_with fail
    all_goals go_meet
    · exact ⟨a3, false, .inl ⟨rfl, rfl⟩, rfl⟩
    · exact ⟨false, a3, .inr ⟨rfl, rfl⟩, rfl⟩
  obtain ⟨x0, y0, p0, rfl⟩ := hcut
  go_upto_if 82 with fail
  go_cut [] from 80 to 86 (fun wx => ∃ x1 y1, Part a4 x1 y1 ∧ wx = ((w'.alloc (.cells (podCells a0 a1 a2 a3 a4 a5 a6 a7 a8 a9 a10) 35)).alloc (.cells (podCells a0 a1 burst x0 x1 false false false false false false) 35)).alloc (.cells (podCells a0 a1 burst y0 y1 false false false false false false) 35))
  case first =>
    go_wp2_with fail
    all_goals go_meet
    · exact ⟨a4, false, .inl ⟨rfl, rfl⟩, rfl⟩
    · exact ⟨false, a4, .inr ⟨rfl, rfl⟩, rfl⟩
  obtain ⟨x1, y1, p1, rfl⟩ := hcut
  go_upto_if 89 with fail
  go_cut [] from 87 to 93 (fun wx => ∃ x2 y2, Part a5 x2 y2 ∧ wx = ((w'.alloc (.cells (podCells a0 a1 a2 a3 a4 a5 a6 a7 a8 a9 a10) 35)).alloc (.cells (podCells a0 a1 burst x0 x1 x2 false false false false false) 35)).alloc (.cells (podCells a0 a1 burst y0 y1 y2 false false false false false) 35))
  case first =>
    go_wp2_with fail
    all_goals go_meet
    · exact ⟨a5, false, .inl ⟨rfl, rfl⟩, rfl⟩
    · exact ⟨false, a5, .inr ⟨rfl, rfl⟩, rfl⟩
  obtain ⟨x2, y2, p2, rfl⟩ := hcut
  go_upto_if 96 with fail
  go_cut [] from 94 to 100 (fun wx => ∃ x3 y3, Part a6 x3 y3 ∧ wx = ((w'.alloc (.cells (podCells a0 a1 a2 a3 a4 a5 a6 a7 a8 a9 a10) 35)).alloc (.cells (podCells a0 a1 burst x0 x1 x2 x3 false false false false) 35)).alloc (.cells (podCells a0 a1 burst y0 y1 y2 y3 false false false false) 35))
  case first =>
    go_wp2_with fail
    all_goals go_meet
    · exact ⟨a6, false, .inl ⟨rfl, rfl⟩, rfl⟩
    · exact ⟨false, a6, .inr ⟨rfl, rfl⟩, rfl⟩
  obtain ⟨x3, y3, p3, rfl⟩ := hcut
  go_upto_if 103 with fail
  go_cut [] from 101 to 107 (fun wx => ∃ x4 y4, Part a7 x4 y4 ∧ wx = ((w'.alloc (.cells (podCells a0 a1 a2 a3 a4 a5 a6 a7 a8 a9 a10) 35)).alloc (.cells (podCells a0 a1 burst x0 x1 x2 x3 x4 false false false) 35)).alloc (.cells (podCells a0 a1 burst y0 y1 y2 y3 y4 false false false) 35))
  case first =>
    go_wp2_with fail
    all_goals go_meet
    · exact ⟨a7, false, .inl ⟨rfl, rfl⟩, rfl⟩
    · exact ⟨false, a7, .inr ⟨rfl, rfl⟩, rfl⟩
  obtain ⟨x4, y4, p4, rfl⟩ := hcut
  go_upto_if 110 with fail
  go_cut [] from 108 to 114 (fun wx => ∃ x5 y5, Part a8 x5 y5 ∧ wx = ((w'.alloc (.cells (podCells a0 a1 a2 a3 a4 a5 a6 a7 a8 a9 a10) 35)).alloc (.cells (podCells a0 a1 burst x0 x1 x2 x3 x4 x5 false false) 35)).alloc (.cells (podCells a0 a1 burst y0 y1 y2 y3 y4 y5 false false) 35))
  case first =>
    go_wp2_with fail
    all_goals go_meet
    · exact ⟨a8, false, .inl ⟨rfl, rfl⟩, rfl⟩
    · exact ⟨false, a8, .inr ⟨rfl, rfl⟩, rfl⟩
  obtain ⟨x5, y5, p5, rfl⟩ := hcut
  go_upto_if 117 with fail
  go_cut [] from 115 to 121 (fun wx => ∃ x6 y6, Part a9 x6 y6 ∧ wx = ((w'.alloc (.cells (podCells a0 a1 a2 a3 a4 a5 a6 a7 a8 a9 a10) 35)).alloc (.cells (podCells a0 a1 burst x0 x1 x2 x3 x4 x5 x6 false) 35)).alloc (.cells (podCells a0 a1 burst y0 y1 y2 y3 y4 y5 y6 false) 35))
  case first =>
    go_wp2_with fail
    all_goals go_meet
    · exact ⟨a9, false, .inl ⟨rfl, rfl⟩, rfl⟩
    · exact ⟨false, a9, .inr ⟨rfl, rfl⟩, rfl⟩
  obtain ⟨x6, y6, p6, rfl⟩ := hcut
  go_upto_if 124 with fail
  go_cut [] from 122 to 128 (fun wx => ∃ x7 y7, Part a10 x7 y7 ∧ wx = ((w'.alloc (.cells (podCells a0 a1 a2 a3 a4 a5 a6 a7 a8 a9 a10) 35)).alloc (.cells (podCells a0 a1 burst x0 x1 x2 x3 x4 x5 x6 x7) 35)).alloc (.cells (podCells a0 a1 burst y0 y1 y2 y3 y4 y5 y6 y7) 35))
  case first =>
    go_wp2_with fail
    all_goals go_meet
    · exact ⟨a10, false, .inl ⟨rfl, rfl⟩, rfl⟩
    · exact ⟨false, a10, .inr ⟨rfl, rfl⟩, rfl⟩
  obtain ⟨x7, y7, p7, rfl⟩ := hcut
  go_upto_if 131 with fail
  go_cut [] from 129 to 135 (fun wx => ∃ x8 y8, PartQ a2 x8 y8 ∧ wx = ((w'.alloc (.cells (podCells a0 a1 a2 a3 a4 a5 a6 a7 a8 a9 a10) 35)).alloc (.cells (podCells a0 a1 x8 x0 x1 x2 x3 x4 x5 x6 x7) 35)).alloc (.cells (podCells a0 a1 y8 y0 y1 y2 y3 y4 y5 y6 y7) 35))
  case first =>
    go_wp2_with fail
    all_goals go_meet
    · exact ⟨a2, burst, .inl ⟨rfl, rfl⟩, rfl⟩
    · exact ⟨burst, a2, .inr ⟨rfl, rfl⟩, rfl⟩
  obtain ⟨x8, y8, p8, rfl⟩ := hcut
  go_wp2_with fail
  refine (uns_row a0 a1 a2 a3 a4 a5 a6 a7 a8 a9 a10 _ _ (heap3_0 _ _ _ _)).mono ?_
  rintro e wa ⟨rfl, rfl⟩
  go_wp2_with fail
  refine (uns_row a0 a1 x8 x0 x1 x2 x3 x4 x5 x6 x7 _ _ (heap3_1 _ _ _ _)).mono ?_
  rintro e wb ⟨rfl, rfl⟩
  go_wp2_with fail
  refine (uns_row a0 a1 y8 y0 y1 y2 y3 y4 y5 y6 y7 _ _ (heap3_2 _ _ _ _)).mono ?_
  rintro e wc ⟨rfl, rfl⟩
  go_upto_region 42 with fail
  have hg : Grown w' (((w'.alloc (.cells (podCells a0 a1 a2 a3 a4 a5 a6 a7 a8 a9 a10) 35)).alloc (.cells (podCells a0 a1 x8 x0 x1 x2 x3 x4 x5 x6 x7) 35)).alloc (.cells (podCells a0 a1 y8 y0 y1 y2 y3 y4 y5 y6 y7) 35)) :=
    by repeat (first | exact Grown.refl _ | apply Grown.drew | apply Grown.alloc)
  have hle := uns_le a2 a3 a4 a5 a6 a7 a8 a9 a10
  have hlx := uns_le x8 x0 x1 x2 x3 x4 x5 x6 x7
  have hly := uns_le y8 y0 y1 y2 y3 y4 y5 y6 y7
  have hlaw : Hid ((if uns y8 y0 y1 y2 y3 y4 y5 y6 y7 < uns x8 x0 x1 x2 x3 x4 x5 x6 x7 then uns y8 y0 y1 y2 y3 y4 y5 y6 y7 else uns x8 x0 x1 x2 x3 x4 x5 x6 x7) = uns a2 a3 a4 a5 a6 a7 a8 a9 a10) := (splitLaw a2 x8 y8 a3 a4 a5 a6 a7 a8 a9 a10 x0 x1 x2 x3 x4 x5 x6 x7 y0 y1 y2 y3 y4 y5 y6 y7 p8 p0 p1 p2 p3 p4 p5 p6 p7)
  have href : Hid ((a3 || a4 || a5 || a6 || a7 || a8 || a9 || a10 || !(a2.toList == [66, 117, 114, 115, 116, 97, 98, 108, 101])) = !decide (uns a2 a3 a4 a5 a6 a7 a8 a9 a10 = 10)) := (refusedLaw a2 a3 a4 a5 a6 a7 a8 a9 a10)
  clear p0 p1 p2 p3 p4 p5 p6 p7 p8
  generalize (((w'.alloc (.cells (podCells a0 a1 a2 a3 a4 a5 a6 a7 a8 a9 a10) 35)).alloc (.cells (podCells a0 a1 x8 x0 x1 x2 x3 x4 x5 x6 x7) 35)).alloc (.cells (podCells a0 a1 y8 y0 y1 y2 y3 y4 y5 y6 y7) 35)) = W at *
  generalize uns a2 a3 a4 a5 a6 a7 a8 a9 a10 = nw at *
  generalize uns x8 x0 x1 x2 x3 x4 x5 x6 x7 = nx at *
  generalize uns y8 y0 y1 y2 y3 y4 y5 y6 y7 = ny at *
  have Hg : Hid (Grown w' W) := hg
  clear hg
  go_cut [3, 4, 5, 6, 7, 8, 9, 10, 31] from 32 to 175 (fun _ _ _ _ _ _ _ _ s31 wx => s31 = .bool (a3 || a4 || a5 || a6 || a7 || a8 || a9 || a10 || !(a2.toList == [66, 117, 114, 115, 116, 97, 98, 108, 101])) ∧ W = wx)
  case first =>
    go_wp2_with fail
    all_goals
      go_meet
      go_light
      exact ⟨by simp [*], rfl⟩
  obtain ⟨rfl, rfl⟩ := hcut
  go_wp2_with fail
  refine (earlier_any nx ny _ _ hlx hly rfl rfl _).mono ?_
  rintro e wd ⟨rfl, rfl⟩
  rw [hlaw.out]
  go_wp2_with fail
  go_ret
  refine ⟨congrArg (fun b : Bool => Ending.returned (.bool b)) (a₂ := true) ?_, Hg.out⟩
  rw [rtext_empty _ hle, href.out]
  cases decide (nw = 10) <;> rfl

/-! ### Too long: true at once. -/
set_option maxRecDepth 100000 in
set_option maxHeartbeats 1000000 in
theorem walkOff (a0 a1 a2 : ByteArray) (a3 a4 a5 a6 a7 a8 a9 a10 : Bool) (a11 : Int) (w0 : a0.size ≤ maxLen) (w1 : a1.size ≤ maxLen) (w2 : a2.size ≤ maxLen)
    (hoff : 262144 < a0.size ∨ 262144 < a1.size ∨ 262144 < a2.size) (w : World) :
    Calls Try.prog 4 #[.string a0, .string a1, .string a2, .bool a3, .bool a4, .bool a5, .bool a6, .bool a7, .bool a8, .bool a9, .bool a10, .int .u16 a11] w fun e w' => e = .returned (.bool true) ∧ Grown w w' := by
  by_cases c0 : 262144 < a0.size
  · go_enter Try.func4, Try.ntmps4
    go_wp2_with fail
    refine (bytes_any a0 a1 a2 a3 a4 a5 a6 a7 a8 a9 a10 _ w0 w1 w2 _).mono ?_
    unfold maxLen at w0 w1 w2
    rintro e w' ⟨⟨r, rfl⟩, rfl⟩
    cases r <;> (go_wp2_with fail; go_ret; exact ⟨rfl, Grown.refl _⟩)
  by_cases c1 : 262144 < a1.size
  · go_enter Try.func4, Try.ntmps4
    go_wp2_with fail
    refine (bytes_any a0 a1 a2 a3 a4 a5 a6 a7 a8 a9 a10 _ w0 w1 w2 _).mono ?_
    unfold maxLen at w0 w1 w2
    rintro e w' ⟨⟨r, rfl⟩, rfl⟩
    cases r <;> (go_wp2_with fail; go_ret; exact ⟨rfl, Grown.refl _⟩)
  have c2 : 262144 < a2.size := by omega
  clear hoff
  go_enter Try.func4, Try.ntmps4
  go_wp2_with fail
  refine (bytes_any a0 a1 a2 a3 a4 a5 a6 a7 a8 a9 a10 _ w0 w1 w2 _).mono ?_
  unfold maxLen at w0 w1 w2
  rintro e w' ⟨⟨r, rfl⟩, rfl⟩
  cases r <;> (go_wp2_with fail; go_ret; exact ⟨rfl, Grown.refl _⟩)

theorem walk (a0 : ByteArray) (a1 : ByteArray) (a2 : ByteArray) (a3 : Bool) (a4 : Bool) (a5 : Bool) (a6 : Bool) (a7 : Bool) (a8 : Bool) (a9 : Bool) (a10 : Bool) (a11 : Int) (w0 : a0.size ≤ maxLen) (w1 : a1.size ≤ maxLen) (w2 : a2.size ≤ maxLen) (w11 : (Lit.int .u16 a11).wf = true) (w : World) :
    Calls Try.prog 4 #[.string a0, .string a1, .string a2, .bool a3, .bool a4, .bool a5, .bool a6, .bool a7, .bool a8, .bool a9, .bool a10, .int .u16 a11] w fun e w' => e = .returned (.bool true) ∧ Grown w w' := by
  by_cases hoff : 262144 < a0.size ∨ 262144 < a1.size ∨ 262144 < a2.size
  · exact walkOff a0 a1 a2 a3 a4 a5 a6 a7 a8 a9 a10 a11 w0 w1 w2 hoff w
  · exact walkOn a0 a1 a2 a3 a4 a5 a6 a7 a8 a9 a10 a11 (by omega) (by omega) (by omega) w

/-! ### THE ROW's STEP: WRITTEN OUT: LEAVE IT -/
set_option maxRecDepth 100000 in
theorem lifted (os : Os) (started : os.Started) (H : Type) (enc : TypeId × Value → H) :
    ReturnsInHanded {} Try.checked os 4 .any (Rows.fnUnsizableSplitIsEarliestOfPartsSpec.pre6 enc Try.prog Try.f4 Rows.fnUnsizableSplitIsEarliestOfPartsRow.domain false) (Rows.fnUnsizableSplitIsEarliestOfPartsSpec.post enc Try.prog Try.f4 false true false false) := by
  refine returnsInHanded_of_change (C := Try.checked) own started (by kernel_rfl) Try.func4
    (ChangeSpec.witness6 (enc := enc) (C := Try.checked) false ⟨#[], #[.string ByteArray.empty, .string ByteArray.empty, .string ByteArray.empty, .bool false, .bool false, .bool false, .bool false, .bool false, .bool false, .bool false, .bool false, .int .u16 0], []⟩ 8 (by kernel_rfl) (by kernel_rfl) (by kernel_rfl) (by kernel_rfl)) ?_
  intro W base args ds gs before hval0 hW hcnd _
  have hval : ∀ (j : Nat) t v, Try.f4.params[j]? = some t → args[j]? = some v → Value.okWide Try.prog W .any base t v := hval0
  have hW' := hW
  obtain ⟨p, q, hA0, hV, rfl, hfz, hnd⟩ := hW
  have hA : DataW.TrodAll enc Try.prog W 0 (fun _ => true) true Try.f4.params.toList args.toList ds p := hA0
  rw [Try.params4] at hA hval
  obtain ⟨v0, vs0, d0, ds0, p0, q0, hargs, rfl, rfl, h0, r0⟩ := trodAll_cons hA
  obtain ⟨v1, vs1, d1, ds1, p1, q1, rfl, rfl, rfl, h1, r1⟩ := trodAll_cons r0
  obtain ⟨v2, vs2, d2, ds2, p2, q2, rfl, rfl, rfl, h2, r2⟩ := trodAll_cons r1
  obtain ⟨v3, vs3, d3, ds3, p3, q3, rfl, rfl, rfl, h3, r3⟩ := trodAll_cons r2
  obtain ⟨v4, vs4, d4, ds4, p4, q4, rfl, rfl, rfl, h4, r4⟩ := trodAll_cons r3
  obtain ⟨v5, vs5, d5, ds5, p5, q5, rfl, rfl, rfl, h5, r5⟩ := trodAll_cons r4
  obtain ⟨v6, vs6, d6, ds6, p6, q6, rfl, rfl, rfl, h6, r6⟩ := trodAll_cons r5
  obtain ⟨v7, vs7, d7, ds7, p7, q7, rfl, rfl, rfl, h7, r7⟩ := trodAll_cons r6
  obtain ⟨v8, vs8, d8, ds8, p8, q8, rfl, rfl, rfl, h8, r8⟩ := trodAll_cons r7
  obtain ⟨v9, vs9, d9, ds9, p9, q9, rfl, rfl, rfl, h9, r9⟩ := trodAll_cons r8
  obtain ⟨v10, vs10, d10, ds10, p10, q10, rfl, rfl, rfl, h10, r10⟩ := trodAll_cons r9
  obtain ⟨v11, vs11, d11, ds11, p11, q11, rfl, rfl, rfl, h11, r11⟩ := trodAll_cons r10
  obtain ⟨rfl, rfl, rfl⟩ := trodAll_nil r11
  obtain rfl : args = #[v0, v1, v2, v3, v4, v5, v6, v7, v8, v9, v10, v11] := by cases args; simp_all
  obtain ⟨rfl, rfl⟩ := trodVars_none hV
  obtain ⟨a0, rfl, rfl, rfl, w0⟩ := open_string Try.underlying9 (hval 0 9 v0 rfl rfl) h0
  obtain ⟨a1, rfl, rfl, rfl, w1⟩ := open_string Try.underlying9 (hval 1 9 v1 rfl rfl) h1
  obtain ⟨a2, rfl, rfl, rfl, w2⟩ := open_string Try.underlying9 (hval 2 9 v2 rfl rfl) h2
  obtain ⟨a3, rfl, rfl, rfl⟩ := open_bool Try.underlying4 (hval 3 4 v3 rfl rfl) h3
  obtain ⟨a4, rfl, rfl, rfl⟩ := open_bool Try.underlying4 (hval 4 4 v4 rfl rfl) h4
  obtain ⟨a5, rfl, rfl, rfl⟩ := open_bool Try.underlying4 (hval 5 4 v5 rfl rfl) h5
  obtain ⟨a6, rfl, rfl, rfl⟩ := open_bool Try.underlying4 (hval 6 4 v6 rfl rfl) h6
  obtain ⟨a7, rfl, rfl, rfl⟩ := open_bool Try.underlying4 (hval 7 4 v7 rfl rfl) h7
  obtain ⟨a8, rfl, rfl, rfl⟩ := open_bool Try.underlying4 (hval 8 4 v8 rfl rfl) h8
  obtain ⟨a9, rfl, rfl, rfl⟩ := open_bool Try.underlying4 (hval 9 4 v9 rfl rfl) h9
  obtain ⟨a10, rfl, rfl, rfl⟩ := open_bool Try.underlying4 (hval 10 4 v10 rfl rfl) h10
  obtain ⟨a11, rfl, rfl, rfl, w11⟩ := open_int Try.underlying40 (hval 11 40 v11 rfl rfl) h11
  clear hA0 hval0
  simp only [List.append_nil] at hW'
  refine (walk a0 a1 a2 a3 a4 a5 a6 a7 a8 a9 a10 a11 w0 w1 w2 w11 W).mono fun e W' ⟨he, hg⟩ => ?_
  subst he
  exact ⟨_, rfl, post_of_same (pa := []) (pv := []) hW' (fun _ _ _ => (trodAll_cons_mk (shut_bool Try.underlying4 _) trodAll_mk0)) (fun sp _ => (trodAll_cons_mk (shut_string Try.underlying9 w0) (trodAll_cons_mk (shut_string Try.underlying9 w1) (trodAll_cons_mk (shut_string Try.underlying9 w2) (trodAll_cons_mk (shut_bool Try.underlying4 _) (trodAll_cons_mk (shut_bool Try.underlying4 _) (trodAll_cons_mk (shut_bool Try.underlying4 _) (trodAll_cons_mk (shut_bool Try.underlying4 _) (trodAll_cons_mk (shut_bool Try.underlying4 _) (trodAll_cons_mk (shut_bool Try.underlying4 _) (trodAll_cons_mk (shut_bool Try.underlying4 _) (trodAll_cons_mk (shut_bool Try.underlying4 _) (trodAll_cons_mk (shut_int Try.underlying40 w11) trodAll_mk0))))))))))))) (fun _ _ => rfl) rfl
    (hg.frame _) hg.2.1 (ok_one (by kernel_rfl) rfl (okWide_bool_mk Try.underlying4 _))⟩

theorem over : Rows.fnUnsizableSplitIsEarliestOfPartsRow.holds Try.pinned (OpenSpec.ofChange Rows.fnUnsizableSplitIsEarliestOfPartsSpec) :=
  OpenClaim.holds_of_wide 4 Try.f4 rfl rfl rfl rfl rfl rfl rfl ⟨rfl, rfl, rfl, rfl, rfl⟩ rfl rfl rfl rfl rfl (by kernel_rfl) Try.func4 (by kernel_rfl)
    (of_decide_eq_true (by kernel_rfl)) (by unfold Func.isWrapper; first | (rw [if_pos (by decide +kernel)]; kernel_rfl) | (rw [if_neg (by decide +kernel)]; exact ⟨rfl, rfl⟩))
    (fun os started H enc _ => lifted os started H enc)

/-- ████ THE STATEMENT ████ -/
theorem proved : Rows.FnUnsizableSplitIsEarliestOfPartsSaid :=
  over
#print axioms proved
end Go.Proofs.Qxb6630538a.fnUnsizableSplitIsEarliestOfParts
