/-
  'Rows.FnUnsizableRaiseOneFlagSaid': the walk by hand, the frame by the kit's program (proof-skeleton.mjs).
-/
import Derived.Test.Qxb6630538aRows
import Derived.Test.Qxb6630538aBase
import Derived.Test.Qxb6630538aPod
import Derived.WalkKit
import Derived.ProofKit
import Derived.OpenShut
import Derived.ShutString
namespace Go.Proofs.Qxb6630538a.fnUnsizableRaiseOneFlag
open Go.ChangeShapes Go.WideShapes Go.ChangeAt Go.RowKit
open Go.ChangeMaps (open_string shut_string)
set_option linter.unusedVariables false      -- a walk need not use every 'w<i>' (that an integer argument fits its kind)

theorem own : ownKnob Try.prog.godebug = none := by kernel_rfl

/-! ### The length guard: some bool, nothing turned. -/
set_option maxHeartbeats 1000000 in
theorem bytes_any (a0 a1 a2 : ByteArray) (a3 a4 a5 a6 a7 a8 a9 a10 : Bool) (a11 : Int) (w0 : a0.size ≤ maxLen) (w1 : a1.size ≤ maxLen) (w2 : a2.size ≤ maxLen) (w : World) :
    Calls Try.prog 5 #[.string a0, .string a1, .string a2, .bool a3, .bool a4, .bool a5, .bool a6, .bool a7, .bool a8, .bool a9, .bool a10, .int .i64 a11] w fun e w' => (∃ r : Bool, e = .returned (.bool r)) ∧ w' = w := by
  unfold maxLen at w0 w1 w2
  go_enter Try.func5, Try.ntmps5
  go_wp2
  all_goals (go_ret; exact ⟨⟨_, rfl⟩, rfl⟩)


theorem set0 (a0 a1 a2 : ByteArray) (a3 a4 a5 a6 a7 a8 a9 a10 : Bool) : (podCells a0 a1 a2 a3 a4 a5 a6 a7 a8 a9 a10).setIfInBounds 6 (.bool true) = podCells a0 a1 a2 true a4 a5 a6 a7 a8 a9 a10 := rfl
set_option maxHeartbeats 1000000 in
theorem walk0 (a0 a1 a2 : ByteArray) (a3 a4 a5 a6 a7 a8 a9 a10 : Bool) (w0 : a0.size ≤ 262144) (w1 : a1.size ≤ 262144) (w2 : a2.size ≤ 262144) (w : World) :
    Calls Try.prog 3 #[.string a0, .string a1, .string a2, .bool a3, .bool a4, .bool a5, .bool a6, .bool a7, .bool a8, .bool a9, .bool a10, .int .i64 0] w fun e w' => e = .returned (.bool true) ∧ Grown w w' := by
  have hp := podCells_size a0 a1 a2 a3 a4 a5 a6 a7 a8 a9 a10
  go_enter Try.func3, Try.ntmps3
  go_wp2_with fail
  refine (bytes_any a0 a1 a2 a3 a4 a5 a6 a7 a8 a9 a10 _ (by unfold maxLen; omega) (by unfold maxLen; omega) (by unfold maxLen; omega) _).mono ?_
  rintro e w' ⟨⟨r, rfl⟩, rfl⟩
  cases r
  · go_wp2_with fail
    go_ret
    exact ⟨rfl, Grown.refl _⟩
  · go_wp2_with (first | (refine step_build rfl _ rfl (podCells a0 a1 a2 a3 a4 a5 a6 a7 a8 a9 a10) (by kernel_rfl) ?_) | (refine step_store rfl _ _ rfl _ rfl rfl _ _ rfl rfl rfl (podCells_one _ _ _ _ _ _ _ _ _ _ _) ?_))
    refine (uns_row a0 a1 a2 a3 a4 a5 a6 a7 a8 a9 a10 _ _ (heap_alloc_last _ _)).mono ?_
    rintro e w1 ⟨rfl, rfl⟩
    go_wp2_with (first | (refine step_load rfl _ rfl _ rfl rfl _ rfl ?_) | (refine step_store rfl _ _ rfl _ rfl (by simp) _ _ rfl rfl rfl (podCells_one _ _ _ _ _ _ _ _ _ _ _) ?_))
    rw [set0]
    refine (uns_row a0 a1 a2 true a4 a5 a6 a7 a8 a9 a10 _ _ (heap_alloc2_new _ _ _)).mono ?_
    rintro e w2 ⟨rfl, rfl⟩
    go_wp2_with fail
    refine (earlier_any (uns a2 a3 a4 a5 a6 a7 a8 a9 a10) 0 _ _ (uns_le _ _ _ _ _ _ _ _ _) (by omega) rfl rfl _).mono ?_
    rintro e w3 ⟨rfl, rfl⟩
    rw [law0 a2 a3 a4 a5 a6 a7 a8 a9 a10]
    go_wp2_with fail
    go_ret
    exact ⟨by simp, by repeat (first | exact Grown.refl _ | apply Grown.drew | apply Grown.alloc)⟩

theorem set1 (a0 a1 a2 : ByteArray) (a3 a4 a5 a6 a7 a8 a9 a10 : Bool) : (podCells a0 a1 a2 a3 a4 a5 a6 a7 a8 a9 a10).setIfInBounds 7 (.bool true) = podCells a0 a1 a2 a3 true a5 a6 a7 a8 a9 a10 := rfl
set_option maxHeartbeats 1000000 in
theorem walk1 (a0 a1 a2 : ByteArray) (a3 a4 a5 a6 a7 a8 a9 a10 : Bool) (w0 : a0.size ≤ 262144) (w1 : a1.size ≤ 262144) (w2 : a2.size ≤ 262144) (w : World) :
    Calls Try.prog 3 #[.string a0, .string a1, .string a2, .bool a3, .bool a4, .bool a5, .bool a6, .bool a7, .bool a8, .bool a9, .bool a10, .int .i64 1] w fun e w' => e = .returned (.bool true) ∧ Grown w w' := by
  have hp := podCells_size a0 a1 a2 a3 a4 a5 a6 a7 a8 a9 a10
  go_enter Try.func3, Try.ntmps3
  go_wp2_with fail
  refine (bytes_any a0 a1 a2 a3 a4 a5 a6 a7 a8 a9 a10 _ (by unfold maxLen; omega) (by unfold maxLen; omega) (by unfold maxLen; omega) _).mono ?_
  rintro e w' ⟨⟨r, rfl⟩, rfl⟩
  cases r
  · go_wp2_with fail
    go_ret
    exact ⟨rfl, Grown.refl _⟩
  · go_wp2_with (first | (refine step_build rfl _ rfl (podCells a0 a1 a2 a3 a4 a5 a6 a7 a8 a9 a10) (by kernel_rfl) ?_) | (refine step_store rfl _ _ rfl _ rfl rfl _ _ rfl rfl rfl (podCells_one _ _ _ _ _ _ _ _ _ _ _) ?_))
    refine (uns_row a0 a1 a2 a3 a4 a5 a6 a7 a8 a9 a10 _ _ (heap_alloc_last _ _)).mono ?_
    rintro e w1 ⟨rfl, rfl⟩
    go_wp2_with (first | (refine step_load rfl _ rfl _ rfl rfl _ rfl ?_) | (refine step_store rfl _ _ rfl _ rfl (by simp) _ _ rfl rfl rfl (podCells_one _ _ _ _ _ _ _ _ _ _ _) ?_))
    rw [set1]
    refine (uns_row a0 a1 a2 a3 true a5 a6 a7 a8 a9 a10 _ _ (heap_alloc2_new _ _ _)).mono ?_
    rintro e w2 ⟨rfl, rfl⟩
    go_wp2_with fail
    refine (earlier_any (uns a2 a3 a4 a5 a6 a7 a8 a9 a10) 1 _ _ (uns_le _ _ _ _ _ _ _ _ _) (by omega) rfl rfl _).mono ?_
    rintro e w3 ⟨rfl, rfl⟩
    rw [law1 a2 a3 a4 a5 a6 a7 a8 a9 a10]
    go_wp2_with fail
    go_ret
    exact ⟨by simp, by repeat (first | exact Grown.refl _ | apply Grown.drew | apply Grown.alloc)⟩

theorem set2 (a0 a1 a2 : ByteArray) (a3 a4 a5 a6 a7 a8 a9 a10 : Bool) : (podCells a0 a1 a2 a3 a4 a5 a6 a7 a8 a9 a10).setIfInBounds 8 (.bool true) = podCells a0 a1 a2 a3 a4 true a6 a7 a8 a9 a10 := rfl
set_option maxHeartbeats 1000000 in
theorem walk2 (a0 a1 a2 : ByteArray) (a3 a4 a5 a6 a7 a8 a9 a10 : Bool) (w0 : a0.size ≤ 262144) (w1 : a1.size ≤ 262144) (w2 : a2.size ≤ 262144) (w : World) :
    Calls Try.prog 3 #[.string a0, .string a1, .string a2, .bool a3, .bool a4, .bool a5, .bool a6, .bool a7, .bool a8, .bool a9, .bool a10, .int .i64 2] w fun e w' => e = .returned (.bool true) ∧ Grown w w' := by
  have hp := podCells_size a0 a1 a2 a3 a4 a5 a6 a7 a8 a9 a10
  go_enter Try.func3, Try.ntmps3
  go_wp2_with fail
  refine (bytes_any a0 a1 a2 a3 a4 a5 a6 a7 a8 a9 a10 _ (by unfold maxLen; omega) (by unfold maxLen; omega) (by unfold maxLen; omega) _).mono ?_
  rintro e w' ⟨⟨r, rfl⟩, rfl⟩
  cases r
  · go_wp2_with fail
    go_ret
    exact ⟨rfl, Grown.refl _⟩
  · go_wp2_with (first | (refine step_build rfl _ rfl (podCells a0 a1 a2 a3 a4 a5 a6 a7 a8 a9 a10) (by kernel_rfl) ?_) | (refine step_store rfl _ _ rfl _ rfl rfl _ _ rfl rfl rfl (podCells_one _ _ _ _ _ _ _ _ _ _ _) ?_))
    refine (uns_row a0 a1 a2 a3 a4 a5 a6 a7 a8 a9 a10 _ _ (heap_alloc_last _ _)).mono ?_
    rintro e w1 ⟨rfl, rfl⟩
    go_wp2_with (first | (refine step_load rfl _ rfl _ rfl rfl _ rfl ?_) | (refine step_store rfl _ _ rfl _ rfl (by simp) _ _ rfl rfl rfl (podCells_one _ _ _ _ _ _ _ _ _ _ _) ?_))
    rw [set2]
    refine (uns_row a0 a1 a2 a3 a4 true a6 a7 a8 a9 a10 _ _ (heap_alloc2_new _ _ _)).mono ?_
    rintro e w2 ⟨rfl, rfl⟩
    go_wp2_with fail
    refine (earlier_any (uns a2 a3 a4 a5 a6 a7 a8 a9 a10) 2 _ _ (uns_le _ _ _ _ _ _ _ _ _) (by omega) rfl rfl _).mono ?_
    rintro e w3 ⟨rfl, rfl⟩
    rw [law2 a2 a3 a4 a5 a6 a7 a8 a9 a10]
    go_wp2_with fail
    go_ret
    exact ⟨by simp, by repeat (first | exact Grown.refl _ | apply Grown.drew | apply Grown.alloc)⟩

theorem set3 (a0 a1 a2 : ByteArray) (a3 a4 a5 a6 a7 a8 a9 a10 : Bool) : (podCells a0 a1 a2 a3 a4 a5 a6 a7 a8 a9 a10).setIfInBounds 9 (.bool true) = podCells a0 a1 a2 a3 a4 a5 true a7 a8 a9 a10 := rfl
set_option maxHeartbeats 1000000 in
theorem walk3 (a0 a1 a2 : ByteArray) (a3 a4 a5 a6 a7 a8 a9 a10 : Bool) (w0 : a0.size ≤ 262144) (w1 : a1.size ≤ 262144) (w2 : a2.size ≤ 262144) (w : World) :
    Calls Try.prog 3 #[.string a0, .string a1, .string a2, .bool a3, .bool a4, .bool a5, .bool a6, .bool a7, .bool a8, .bool a9, .bool a10, .int .i64 3] w fun e w' => e = .returned (.bool true) ∧ Grown w w' := by
  have hp := podCells_size a0 a1 a2 a3 a4 a5 a6 a7 a8 a9 a10
  go_enter Try.func3, Try.ntmps3
  go_wp2_with fail
  refine (bytes_any a0 a1 a2 a3 a4 a5 a6 a7 a8 a9 a10 _ (by unfold maxLen; omega) (by unfold maxLen; omega) (by unfold maxLen; omega) _).mono ?_
  rintro e w' ⟨⟨r, rfl⟩, rfl⟩
  cases r
  · go_wp2_with fail
    go_ret
    exact ⟨rfl, Grown.refl _⟩
  · go_wp2_with (first | (refine step_build rfl _ rfl (podCells a0 a1 a2 a3 a4 a5 a6 a7 a8 a9 a10) (by kernel_rfl) ?_) | (refine step_store rfl _ _ rfl _ rfl rfl _ _ rfl rfl rfl (podCells_one _ _ _ _ _ _ _ _ _ _ _) ?_))
    refine (uns_row a0 a1 a2 a3 a4 a5 a6 a7 a8 a9 a10 _ _ (heap_alloc_last _ _)).mono ?_
    rintro e w1 ⟨rfl, rfl⟩
    go_wp2_with (first | (refine step_load rfl _ rfl _ rfl rfl _ rfl ?_) | (refine step_store rfl _ _ rfl _ rfl (by simp) _ _ rfl rfl rfl (podCells_one _ _ _ _ _ _ _ _ _ _ _) ?_))
    rw [set3]
    refine (uns_row a0 a1 a2 a3 a4 a5 true a7 a8 a9 a10 _ _ (heap_alloc2_new _ _ _)).mono ?_
    rintro e w2 ⟨rfl, rfl⟩
    go_wp2_with fail
    refine (earlier_any (uns a2 a3 a4 a5 a6 a7 a8 a9 a10) 3 _ _ (uns_le _ _ _ _ _ _ _ _ _) (by omega) rfl rfl _).mono ?_
    rintro e w3 ⟨rfl, rfl⟩
    rw [law3 a2 a3 a4 a5 a6 a7 a8 a9 a10]
    go_wp2_with fail
    go_ret
    exact ⟨by simp, by repeat (first | exact Grown.refl _ | apply Grown.drew | apply Grown.alloc)⟩

theorem set4 (a0 a1 a2 : ByteArray) (a3 a4 a5 a6 a7 a8 a9 a10 : Bool) : (podCells a0 a1 a2 a3 a4 a5 a6 a7 a8 a9 a10).setIfInBounds 3 (.bool true) = podCells a0 a1 a2 a3 a4 a5 a6 true a8 a9 a10 := rfl
set_option maxHeartbeats 1000000 in
theorem walk4 (a0 a1 a2 : ByteArray) (a3 a4 a5 a6 a7 a8 a9 a10 : Bool) (w0 : a0.size ≤ 262144) (w1 : a1.size ≤ 262144) (w2 : a2.size ≤ 262144) (w : World) :
    Calls Try.prog 3 #[.string a0, .string a1, .string a2, .bool a3, .bool a4, .bool a5, .bool a6, .bool a7, .bool a8, .bool a9, .bool a10, .int .i64 4] w fun e w' => e = .returned (.bool true) ∧ Grown w w' := by
  have hp := podCells_size a0 a1 a2 a3 a4 a5 a6 a7 a8 a9 a10
  go_enter Try.func3, Try.ntmps3
  go_wp2_with fail
  refine (bytes_any a0 a1 a2 a3 a4 a5 a6 a7 a8 a9 a10 _ (by unfold maxLen; omega) (by unfold maxLen; omega) (by unfold maxLen; omega) _).mono ?_
  rintro e w' ⟨⟨r, rfl⟩, rfl⟩
  cases r
  · go_wp2_with fail
    go_ret
    exact ⟨rfl, Grown.refl _⟩
  · go_wp2_with (first | (refine step_build rfl _ rfl (podCells a0 a1 a2 a3 a4 a5 a6 a7 a8 a9 a10) (by kernel_rfl) ?_) | (refine step_store rfl _ _ rfl _ rfl rfl _ _ rfl rfl rfl (podCells_one _ _ _ _ _ _ _ _ _ _ _) ?_))
    refine (uns_row a0 a1 a2 a3 a4 a5 a6 a7 a8 a9 a10 _ _ (heap_alloc_last _ _)).mono ?_
    rintro e w1 ⟨rfl, rfl⟩
    go_wp2_with (first | (refine step_load rfl _ rfl _ rfl rfl _ rfl ?_) | (refine step_store rfl _ _ rfl _ rfl (by simp) _ _ rfl rfl rfl (podCells_one _ _ _ _ _ _ _ _ _ _ _) ?_))
    rw [set4]
    refine (uns_row a0 a1 a2 a3 a4 a5 a6 true a8 a9 a10 _ _ (heap_alloc2_new _ _ _)).mono ?_
    rintro e w2 ⟨rfl, rfl⟩
    go_wp2_with fail
    refine (earlier_any (uns a2 a3 a4 a5 a6 a7 a8 a9 a10) 4 _ _ (uns_le _ _ _ _ _ _ _ _ _) (by omega) rfl rfl _).mono ?_
    rintro e w3 ⟨rfl, rfl⟩
    rw [law4 a2 a3 a4 a5 a6 a7 a8 a9 a10]
    go_wp2_with fail
    go_ret
    exact ⟨by simp, by repeat (first | exact Grown.refl _ | apply Grown.drew | apply Grown.alloc)⟩

theorem set5 (a0 a1 a2 : ByteArray) (a3 a4 a5 a6 a7 a8 a9 a10 : Bool) : (podCells a0 a1 a2 a3 a4 a5 a6 a7 a8 a9 a10).setIfInBounds 12 (.bool true) = podCells a0 a1 a2 a3 a4 a5 a6 a7 true a9 a10 := rfl
set_option maxHeartbeats 1000000 in
theorem walk5 (a0 a1 a2 : ByteArray) (a3 a4 a5 a6 a7 a8 a9 a10 : Bool) (w0 : a0.size ≤ 262144) (w1 : a1.size ≤ 262144) (w2 : a2.size ≤ 262144) (w : World) :
    Calls Try.prog 3 #[.string a0, .string a1, .string a2, .bool a3, .bool a4, .bool a5, .bool a6, .bool a7, .bool a8, .bool a9, .bool a10, .int .i64 5] w fun e w' => e = .returned (.bool true) ∧ Grown w w' := by
  have hp := podCells_size a0 a1 a2 a3 a4 a5 a6 a7 a8 a9 a10
  go_enter Try.func3, Try.ntmps3
  go_wp2_with fail
  refine (bytes_any a0 a1 a2 a3 a4 a5 a6 a7 a8 a9 a10 _ (by unfold maxLen; omega) (by unfold maxLen; omega) (by unfold maxLen; omega) _).mono ?_
  rintro e w' ⟨⟨r, rfl⟩, rfl⟩
  cases r
  · go_wp2_with fail
    go_ret
    exact ⟨rfl, Grown.refl _⟩
  · go_wp2_with (first | (refine step_build rfl _ rfl (podCells a0 a1 a2 a3 a4 a5 a6 a7 a8 a9 a10) (by kernel_rfl) ?_) | (refine step_store rfl _ _ rfl _ rfl rfl _ _ rfl rfl rfl (podCells_one _ _ _ _ _ _ _ _ _ _ _) ?_))
    refine (uns_row a0 a1 a2 a3 a4 a5 a6 a7 a8 a9 a10 _ _ (heap_alloc_last _ _)).mono ?_
    rintro e w1 ⟨rfl, rfl⟩
    go_wp2_with (first | (refine step_load rfl _ rfl _ rfl rfl _ rfl ?_) | (refine step_store rfl _ _ rfl _ rfl (by simp) _ _ rfl rfl rfl (podCells_one _ _ _ _ _ _ _ _ _ _ _) ?_))
    rw [set5]
    refine (uns_row a0 a1 a2 a3 a4 a5 a6 a7 true a9 a10 _ _ (heap_alloc2_new _ _ _)).mono ?_
    rintro e w2 ⟨rfl, rfl⟩
    go_wp2_with fail
    refine (earlier_any (uns a2 a3 a4 a5 a6 a7 a8 a9 a10) 5 _ _ (uns_le _ _ _ _ _ _ _ _ _) (by omega) rfl rfl _).mono ?_
    rintro e w3 ⟨rfl, rfl⟩
    rw [law5 a2 a3 a4 a5 a6 a7 a8 a9 a10]
    go_wp2_with fail
    go_ret
    exact ⟨by simp, by repeat (first | exact Grown.refl _ | apply Grown.drew | apply Grown.alloc)⟩

theorem set6 (a0 a1 a2 : ByteArray) (a3 a4 a5 a6 a7 a8 a9 a10 : Bool) : (podCells a0 a1 a2 a3 a4 a5 a6 a7 a8 a9 a10).setIfInBounds 10 (.bool true) = podCells a0 a1 a2 a3 a4 a5 a6 a7 a8 true a10 := rfl
set_option maxHeartbeats 1000000 in
theorem walk6 (a0 a1 a2 : ByteArray) (a3 a4 a5 a6 a7 a8 a9 a10 : Bool) (w0 : a0.size ≤ 262144) (w1 : a1.size ≤ 262144) (w2 : a2.size ≤ 262144) (w : World) :
    Calls Try.prog 3 #[.string a0, .string a1, .string a2, .bool a3, .bool a4, .bool a5, .bool a6, .bool a7, .bool a8, .bool a9, .bool a10, .int .i64 6] w fun e w' => e = .returned (.bool true) ∧ Grown w w' := by
  have hp := podCells_size a0 a1 a2 a3 a4 a5 a6 a7 a8 a9 a10
  go_enter Try.func3, Try.ntmps3
  go_wp2_with fail
  refine (bytes_any a0 a1 a2 a3 a4 a5 a6 a7 a8 a9 a10 _ (by unfold maxLen; omega) (by unfold maxLen; omega) (by unfold maxLen; omega) _).mono ?_
  rintro e w' ⟨⟨r, rfl⟩, rfl⟩
  cases r
  · go_wp2_with fail
    go_ret
    exact ⟨rfl, Grown.refl _⟩
  · go_wp2_with (first | (refine step_build rfl _ rfl (podCells a0 a1 a2 a3 a4 a5 a6 a7 a8 a9 a10) (by kernel_rfl) ?_) | (refine step_store rfl _ _ rfl _ rfl rfl _ _ rfl rfl rfl (podCells_one _ _ _ _ _ _ _ _ _ _ _) ?_))
    refine (uns_row a0 a1 a2 a3 a4 a5 a6 a7 a8 a9 a10 _ _ (heap_alloc_last _ _)).mono ?_
    rintro e w1 ⟨rfl, rfl⟩
    go_wp2_with (first | (refine step_load rfl _ rfl _ rfl rfl _ rfl ?_) | (refine step_store rfl _ _ rfl _ rfl (by simp) _ _ rfl rfl rfl (podCells_one _ _ _ _ _ _ _ _ _ _ _) ?_))
    rw [set6]
    refine (uns_row a0 a1 a2 a3 a4 a5 a6 a7 a8 true a10 _ _ (heap_alloc2_new _ _ _)).mono ?_
    rintro e w2 ⟨rfl, rfl⟩
    go_wp2_with fail
    refine (earlier_any (uns a2 a3 a4 a5 a6 a7 a8 a9 a10) 8 _ _ (uns_le _ _ _ _ _ _ _ _ _) (by omega) rfl rfl _).mono ?_
    rintro e w3 ⟨rfl, rfl⟩
    rw [law6 a2 a3 a4 a5 a6 a7 a8 a9 a10]
    go_wp2_with fail
    go_ret
    exact ⟨by simp, by repeat (first | exact Grown.refl _ | apply Grown.drew | apply Grown.alloc)⟩

theorem set7 (a0 a1 a2 : ByteArray) (a3 a4 a5 a6 a7 a8 a9 a10 : Bool) : (podCells a0 a1 a2 a3 a4 a5 a6 a7 a8 a9 a10).setIfInBounds 11 (.bool true) = podCells a0 a1 a2 a3 a4 a5 a6 a7 a8 a9 true := rfl
set_option maxHeartbeats 1000000 in
theorem walk7 (a0 a1 a2 : ByteArray) (a3 a4 a5 a6 a7 a8 a9 a10 : Bool) (w0 : a0.size ≤ 262144) (w1 : a1.size ≤ 262144) (w2 : a2.size ≤ 262144) (w : World) :
    Calls Try.prog 3 #[.string a0, .string a1, .string a2, .bool a3, .bool a4, .bool a5, .bool a6, .bool a7, .bool a8, .bool a9, .bool a10, .int .i64 7] w fun e w' => e = .returned (.bool true) ∧ Grown w w' := by
  have hp := podCells_size a0 a1 a2 a3 a4 a5 a6 a7 a8 a9 a10
  go_enter Try.func3, Try.ntmps3
  go_wp2_with fail
  refine (bytes_any a0 a1 a2 a3 a4 a5 a6 a7 a8 a9 a10 _ (by unfold maxLen; omega) (by unfold maxLen; omega) (by unfold maxLen; omega) _).mono ?_
  rintro e w' ⟨⟨r, rfl⟩, rfl⟩
  cases r
  · go_wp2_with fail
    go_ret
    exact ⟨rfl, Grown.refl _⟩
  · go_wp2_with (first | (refine step_build rfl _ rfl (podCells a0 a1 a2 a3 a4 a5 a6 a7 a8 a9 a10) (by kernel_rfl) ?_) | (refine step_store rfl _ _ rfl _ rfl rfl _ _ rfl rfl rfl (podCells_one _ _ _ _ _ _ _ _ _ _ _) ?_))
    refine (uns_row a0 a1 a2 a3 a4 a5 a6 a7 a8 a9 a10 _ _ (heap_alloc_last _ _)).mono ?_
    rintro e w1 ⟨rfl, rfl⟩
    go_wp2_with (first | (refine step_load rfl _ rfl _ rfl rfl _ rfl ?_) | (refine step_store rfl _ _ rfl _ rfl (by simp) _ _ rfl rfl rfl (podCells_one _ _ _ _ _ _ _ _ _ _ _) ?_))
    rw [set7]
    refine (uns_row a0 a1 a2 a3 a4 a5 a6 a7 a8 a9 true _ _ (heap_alloc2_new _ _ _)).mono ?_
    rintro e w2 ⟨rfl, rfl⟩
    go_wp2_with fail
    refine (earlier_any (uns a2 a3 a4 a5 a6 a7 a8 a9 a10) 9 _ _ (uns_le _ _ _ _ _ _ _ _ _) (by omega) rfl rfl _).mono ?_
    rintro e w3 ⟨rfl, rfl⟩
    rw [law7 a2 a3 a4 a5 a6 a7 a8 a9 a10]
    go_wp2_with fail
    go_ret
    exact ⟨by simp, by repeat (first | exact Grown.refl _ | apply Grown.drew | apply Grown.alloc)⟩

theorem set8 (a0 a1 a2 : ByteArray) (a3 a4 a5 a6 a7 a8 a9 a10 : Bool) : (podCells a0 a1 a2 a3 a4 a5 a6 a7 a8 a9 a10).setIfInBounds 4 (.string ⟨#[71, 117, 97, 114, 97, 110, 116, 101, 101, 100]⟩) = podCells a0 a1 guar a3 a4 a5 a6 a7 a8 a9 a10 := rfl
set_option maxHeartbeats 1000000 in
theorem walk8 (a0 a1 a2 : ByteArray) (a3 a4 a5 a6 a7 a8 a9 a10 : Bool) (w0 : a0.size ≤ 262144) (w1 : a1.size ≤ 262144) (w2 : a2.size ≤ 262144) (w : World) :
    Calls Try.prog 3 #[.string a0, .string a1, .string a2, .bool a3, .bool a4, .bool a5, .bool a6, .bool a7, .bool a8, .bool a9, .bool a10, .int .i64 8] w fun e w' => e = .returned (.bool true) ∧ Grown w w' := by
  have hp := podCells_size a0 a1 a2 a3 a4 a5 a6 a7 a8 a9 a10
  go_enter Try.func3, Try.ntmps3
  go_wp2_with fail
  refine (bytes_any a0 a1 a2 a3 a4 a5 a6 a7 a8 a9 a10 _ (by unfold maxLen; omega) (by unfold maxLen; omega) (by unfold maxLen; omega) _).mono ?_
  rintro e w' ⟨⟨r, rfl⟩, rfl⟩
  cases r
  · go_wp2_with fail
    go_ret
    exact ⟨rfl, Grown.refl _⟩
  · go_wp2_with (first | (refine step_build rfl _ rfl (podCells a0 a1 a2 a3 a4 a5 a6 a7 a8 a9 a10) (by kernel_rfl) ?_) | (refine step_store rfl _ _ rfl _ rfl rfl _ _ rfl rfl rfl (podCells_one _ _ _ _ _ _ _ _ _ _ _) ?_))
    refine (uns_row a0 a1 a2 a3 a4 a5 a6 a7 a8 a9 a10 _ _ (heap_alloc_last _ _)).mono ?_
    rintro e w1 ⟨rfl, rfl⟩
    go_wp2_with (first | (refine step_load rfl _ rfl _ rfl rfl _ rfl ?_) | (refine step_store rfl _ _ rfl _ rfl (by simp) _ _ rfl rfl rfl (podCells_one _ _ _ _ _ _ _ _ _ _ _) ?_))
    rw [set8]
    refine (uns_row a0 a1 guar a3 a4 a5 a6 a7 a8 a9 a10 _ _ (heap_alloc2_new _ _ _)).mono ?_
    rintro e w2 ⟨rfl, rfl⟩
    go_wp2_with fail
    refine (earlier_any (uns a2 a3 a4 a5 a6 a7 a8 a9 a10) 6 _ _ (uns_le _ _ _ _ _ _ _ _ _) (by omega) rfl rfl _).mono ?_
    rintro e w3 ⟨rfl, rfl⟩
    rw [law8 a2 a3 a4 a5 a6 a7 a8 a9 a10]
    go_wp2_with fail
    go_ret
    exact ⟨by simp, by repeat (first | exact Grown.refl _ | apply Grown.drew | apply Grown.alloc)⟩

/-! ### Too long, or k out of range: true at once. -/
set_option maxHeartbeats 1000000 in
theorem walkOff (a0 a1 a2 : ByteArray) (a3 a4 a5 a6 a7 a8 a9 a10 : Bool) (a11 : Int) (w0 : a0.size ≤ maxLen) (w1 : a1.size ≤ maxLen) (w2 : a2.size ≤ maxLen)
    (hoff : 262144 < a0.size ∨ 262144 < a1.size ∨ 262144 < a2.size ∨ a11 < 0 ∨ 8 < a11) (w : World) :
    Calls Try.prog 3 #[.string a0, .string a1, .string a2, .bool a3, .bool a4, .bool a5, .bool a6, .bool a7, .bool a8, .bool a9, .bool a10, .int .i64 a11] w fun e w' => e = .returned (.bool true) ∧ Grown w w' := by
  by_cases c0 : 262144 < a0.size
  · go_enter Try.func3, Try.ntmps3
    go_wp2_with fail
    refine (bytes_any a0 a1 a2 a3 a4 a5 a6 a7 a8 a9 a10 _ w0 w1 w2 _).mono ?_
    unfold maxLen at w0 w1 w2
    rintro e w' ⟨⟨r, rfl⟩, rfl⟩
    cases r <;> (go_wp2_with fail; go_ret; exact ⟨rfl, Grown.refl _⟩)
  by_cases c1 : 262144 < a1.size
  · go_enter Try.func3, Try.ntmps3
    go_wp2_with fail
    refine (bytes_any a0 a1 a2 a3 a4 a5 a6 a7 a8 a9 a10 _ w0 w1 w2 _).mono ?_
    unfold maxLen at w0 w1 w2
    rintro e w' ⟨⟨r, rfl⟩, rfl⟩
    cases r <;> (go_wp2_with fail; go_ret; exact ⟨rfl, Grown.refl _⟩)
  by_cases c2 : 262144 < a2.size
  · go_enter Try.func3, Try.ntmps3
    go_wp2_with fail
    refine (bytes_any a0 a1 a2 a3 a4 a5 a6 a7 a8 a9 a10 _ w0 w1 w2 _).mono ?_
    unfold maxLen at w0 w1 w2
    rintro e w' ⟨⟨r, rfl⟩, rfl⟩
    cases r <;> (go_wp2_with fail; go_ret; exact ⟨rfl, Grown.refl _⟩)
  by_cases c3 : a11 < 0
  · go_enter Try.func3, Try.ntmps3
    go_wp2_with fail
    refine (bytes_any a0 a1 a2 a3 a4 a5 a6 a7 a8 a9 a10 _ w0 w1 w2 _).mono ?_
    unfold maxLen at w0 w1 w2
    rintro e w' ⟨⟨r, rfl⟩, rfl⟩
    cases r <;> (go_wp2_with fail; go_ret; exact ⟨rfl, Grown.refl _⟩)
  have c4 : 8 < a11 := by omega
  clear hoff
  go_enter Try.func3, Try.ntmps3
  go_wp2_with fail
  refine (bytes_any a0 a1 a2 a3 a4 a5 a6 a7 a8 a9 a10 _ w0 w1 w2 _).mono ?_
  unfold maxLen at w0 w1 w2
  rintro e w' ⟨⟨r, rfl⟩, rfl⟩
  cases r <;> (go_wp2_with fail; go_ret; exact ⟨rfl, Grown.refl _⟩)

theorem walk (a0 : ByteArray) (a1 : ByteArray) (a2 : ByteArray) (a3 : Bool) (a4 : Bool) (a5 : Bool) (a6 : Bool) (a7 : Bool) (a8 : Bool) (a9 : Bool) (a10 : Bool) (a11 : Int) (w0 : a0.size ≤ maxLen) (w1 : a1.size ≤ maxLen) (w2 : a2.size ≤ maxLen) (w11 : (Lit.int .i64 a11).wf = true) (w : World) :
    Calls Try.prog 3 #[.string a0, .string a1, .string a2, .bool a3, .bool a4, .bool a5, .bool a6, .bool a7, .bool a8, .bool a9, .bool a10, .int .i64 a11] w fun e w' => e = .returned (.bool true) ∧ Grown w w' := by
  by_cases hoff : 262144 < a0.size ∨ 262144 < a1.size ∨ 262144 < a2.size ∨ a11 < 0 ∨ 8 < a11
  · exact walkOff a0 a1 a2 a3 a4 a5 a6 a7 a8 a9 a10 a11 w0 w1 w2 hoff w
  · have z0 : a0.size ≤ 262144 := by omega
    have z1 : a1.size ≤ 262144 := by omega
    have z2 : a2.size ≤ 262144 := by omega
    have hk : a11 = 0 ∨ a11 = 1 ∨ a11 = 2 ∨ a11 = 3 ∨ a11 = 4 ∨ a11 = 5 ∨ a11 = 6 ∨ a11 = 7 ∨ a11 = 8 := by omega
    rcases hk with rfl | rfl | rfl | rfl | rfl | rfl | rfl | rfl | rfl
    · exact walk0 a0 a1 a2 a3 a4 a5 a6 a7 a8 a9 a10 z0 z1 z2 w
    · exact walk1 a0 a1 a2 a3 a4 a5 a6 a7 a8 a9 a10 z0 z1 z2 w
    · exact walk2 a0 a1 a2 a3 a4 a5 a6 a7 a8 a9 a10 z0 z1 z2 w
    · exact walk3 a0 a1 a2 a3 a4 a5 a6 a7 a8 a9 a10 z0 z1 z2 w
    · exact walk4 a0 a1 a2 a3 a4 a5 a6 a7 a8 a9 a10 z0 z1 z2 w
    · exact walk5 a0 a1 a2 a3 a4 a5 a6 a7 a8 a9 a10 z0 z1 z2 w
    · exact walk6 a0 a1 a2 a3 a4 a5 a6 a7 a8 a9 a10 z0 z1 z2 w
    · exact walk7 a0 a1 a2 a3 a4 a5 a6 a7 a8 a9 a10 z0 z1 z2 w
    · exact walk8 a0 a1 a2 a3 a4 a5 a6 a7 a8 a9 a10 z0 z1 z2 w

/-! ### THE ROW's STEP: WRITTEN OUT: LEAVE IT -/
set_option maxRecDepth 100000 in
theorem lifted (os : Os) (started : os.Started) (H : Type) (enc : TypeId × Value → H) :
    ReturnsInHanded {} Try.checked os 3 .any (Rows.fnUnsizableRaiseOneFlagSpec.pre6 enc Try.prog Try.f3 Rows.fnUnsizableRaiseOneFlagRow.domain false) (Rows.fnUnsizableRaiseOneFlagSpec.post enc Try.prog Try.f3 false true false false) := by
  refine returnsInHanded_of_change (C := Try.checked) own started (by kernel_rfl) Try.func3
    (ChangeSpec.witness6 (enc := enc) (C := Try.checked) false ⟨#[], #[.string ByteArray.empty, .string ByteArray.empty, .string ByteArray.empty, .bool false, .bool false, .bool false, .bool false, .bool false, .bool false, .bool false, .bool false, .int .i64 0], []⟩ 8 (by kernel_rfl) (by kernel_rfl) (by kernel_rfl) (by kernel_rfl)) ?_
  intro W base args ds gs before hval0 hW hcnd _
  have hval : ∀ (j : Nat) t v, Try.f3.params[j]? = some t → args[j]? = some v → Value.okWide Try.prog W .any base t v := hval0
  have hW' := hW
  obtain ⟨p, q, hA0, hV, rfl, hfz, hnd⟩ := hW
  have hA : DataW.TrodAll enc Try.prog W 0 (fun _ => true) true Try.f3.params.toList args.toList ds p := hA0
  rw [Try.params3] at hA hval
  obtain ⟨v0, vs0, d0, ds0, p0, q0, hargs, rfl, rfl, h0, r0⟩ := trodAll_cons hA
  obtain ⟨v1, vs1, d1, ds1, p1, q1, rfl, rfl, rfl, h1, r1⟩ := trodAll_cons r0
  obtain ⟨v2, vs2, d2, ds2, p2, q2, rfl, rfl, rfl, h2, r2⟩ := trodAll_cons r1
  obtain ⟨v3, vs3, d3, ds3, p3, q3, rfl, rfl, rfl, h3, r3⟩ := trodAll_cons r2
  obtain ⟨v4, vs4, d4, ds4, p4, q4, rfl, rfl, rfl, h4, r4⟩ := trodAll_cons r3
  obtain ⟨v5, vs5, d5, ds5, p5, q5, rfl, rfl, rfl, h5, r5⟩ := trodAll_cons r4
  obtain ⟨v6, vs6, d6, ds6, p6, q6, rfl, rfl, rfl, h6, r6⟩ := trodAll_cons r5
  obtain ⟨v7, vs7, d7, ds7, p7, q7, rfl, rfl, rfl, h7, r7⟩ := trodAll_cons r6
  obtain ⟨v8, vs8, d8, ds8, p8, q8, rfl, rfl, rfl, h8, r8⟩ := trodAll_cons r7
  obtain ⟨v9, vs9, d9, ds9, p9, q9, rfl, rfl, rfl, h9, r9⟩ := trodAll_cons r8
  obtain ⟨v10, vs10, d10, ds10, p10, q10, rfl, rfl, rfl, h10, r10⟩ := trodAll_cons r9
  obtain ⟨v11, vs11, d11, ds11, p11, q11, rfl, rfl, rfl, h11, r11⟩ := trodAll_cons r10
  obtain ⟨rfl, rfl, rfl⟩ := trodAll_nil r11
  obtain rfl : args = #[v0, v1, v2, v3, v4, v5, v6, v7, v8, v9, v10, v11] := by cases args; simp_all
  obtain ⟨rfl, rfl⟩ := trodVars_none hV
  obtain ⟨a0, rfl, rfl, rfl, w0⟩ := open_string Try.underlying9 (hval 0 9 v0 rfl rfl) h0
  obtain ⟨a1, rfl, rfl, rfl, w1⟩ := open_string Try.underlying9 (hval 1 9 v1 rfl rfl) h1
  obtain ⟨a2, rfl, rfl, rfl, w2⟩ := open_string Try.underlying9 (hval 2 9 v2 rfl rfl) h2
  obtain ⟨a3, rfl, rfl, rfl⟩ := open_bool Try.underlying4 (hval 3 4 v3 rfl rfl) h3
  obtain ⟨a4, rfl, rfl, rfl⟩ := open_bool Try.underlying4 (hval 4 4 v4 rfl rfl) h4
  obtain ⟨a5, rfl, rfl, rfl⟩ := open_bool Try.underlying4 (hval 5 4 v5 rfl rfl) h5
  obtain ⟨a6, rfl, rfl, rfl⟩ := open_bool Try.underlying4 (hval 6 4 v6 rfl rfl) h6
  obtain ⟨a7, rfl, rfl, rfl⟩ := open_bool Try.underlying4 (hval 7 4 v7 rfl rfl) h7
  obtain ⟨a8, rfl, rfl, rfl⟩ := open_bool Try.underlying4 (hval 8 4 v8 rfl rfl) h8
  obtain ⟨a9, rfl, rfl, rfl⟩ := open_bool Try.underlying4 (hval 9 4 v9 rfl rfl) h9
  obtain ⟨a10, rfl, rfl, rfl⟩ := open_bool Try.underlying4 (hval 10 4 v10 rfl rfl) h10
  obtain ⟨a11, rfl, rfl, rfl, w11⟩ := open_int Try.underlying3 (hval 11 3 v11 rfl rfl) h11
  clear hA0 hval0
  simp only [List.append_nil] at hW'
  refine (walk a0 a1 a2 a3 a4 a5 a6 a7 a8 a9 a10 a11 w0 w1 w2 w11 W).mono fun e W' ⟨he, hg⟩ => ?_
  subst he
  exact ⟨_, rfl, post_of_same (pa := []) (pv := []) hW' (fun _ _ _ => (trodAll_cons_mk (shut_bool Try.underlying4 _) trodAll_mk0)) (fun sp _ => (trodAll_cons_mk (shut_string Try.underlying9 w0) (trodAll_cons_mk (shut_string Try.underlying9 w1) (trodAll_cons_mk (shut_string Try.underlying9 w2) (trodAll_cons_mk (shut_bool Try.underlying4 _) (trodAll_cons_mk (shut_bool Try.underlying4 _) (trodAll_cons_mk (shut_bool Try.underlying4 _) (trodAll_cons_mk (shut_bool Try.underlying4 _) (trodAll_cons_mk (shut_bool Try.underlying4 _) (trodAll_cons_mk (shut_bool Try.underlying4 _) (trodAll_cons_mk (shut_bool Try.underlying4 _) (trodAll_cons_mk (shut_bool Try.underlying4 _) (trodAll_cons_mk (shut_int Try.underlying3 w11) trodAll_mk0))))))))))))) (fun _ _ => rfl) rfl
    (hg.frame _) hg.2.1 (ok_one (by kernel_rfl) rfl (okWide_bool_mk Try.underlying4 _))⟩

theorem over : Rows.fnUnsizableRaiseOneFlagRow.holds Try.pinned (OpenSpec.ofChange Rows.fnUnsizableRaiseOneFlagSpec) :=
  OpenClaim.holds_of_wide 3 Try.f3 rfl rfl rfl rfl rfl rfl rfl ⟨rfl, rfl, rfl, rfl, rfl⟩ rfl rfl rfl rfl rfl (by kernel_rfl) Try.func3 (by kernel_rfl)
    (of_decide_eq_true (by kernel_rfl)) (by unfold Func.isWrapper; first | (rw [if_pos (by decide +kernel)]; kernel_rfl) | (rw [if_neg (by decide +kernel)]; exact ⟨rfl, rfl⟩))
    (fun os started H enc _ => lifted os started H enc)

/-- ████ THE STATEMENT ████ -/
theorem proved : Rows.FnUnsizableRaiseOneFlagSaid :=
  over
#print axioms proved
end Go.Proofs.Qxb6630538a.fnUnsizableRaiseOneFlag
