/-
  The plain laws: a field put in ahead of all others, or behind them.
-/
import Derived.Test.Qxb6625799aZZ
namespace Go.Proofs.Qxb6625799a
open Go.ChangeShapes Go.WideShapes Go.ChangeAt Go.RowKit
set_option linter.unusedVariables false

/-- A text's bytes as numbers. -/
def nums (s : ByteArray) : List Int := s.data.toList.map (fun c => (c.toNat : Int))
theorem nums_length (s : ByteArray) : (nums s).length = s.size := by simp [nums]
theorem nums_back (s : ByteArray) : strOfNums (nums s) = s := by
  have h : (strOfNums (nums s)).data.toList = s.data.toList := by
    rw [strOfNums_data]
    simp [nums, List.map_map, Function.comp_def]
  have h2 : (strOfNums (nums s)).data = s.data := Array.toList_inj.1 h
  cases s; cases hs : strOfNums (nums _); simp_all

theorem cut_old (S N : List Int) (f t : Int) (h0 : 0 ≤ f) (h1 : f ≤ t) (h2 : t ≤ S.length) : cutText (S ++ N) f t = cutText S f t := by
  unfold cutText
  congr 1
  rw [List.drop_append_of_le_length (by omega), List.take_append_of_le_length (by simp; omega)]
theorem cut_new (S : List Int) (s : ByteArray) : cutText (S ++ nums s) (S.length : Int) ((S.length : Int) + s.size) = s := by
  unfold cutText
  have e1 : ((S.length : Int) + (s.size : Int)).toNat - ((S.length : Int)).toNat = s.size := by omega
  rw [e1, Int.toNat_natCast, List.drop_left, List.take_of_length_le (by rw [nums_length]; omega), nums_back]

theorem gv_shift (nm nm' : Nat → ByteArray) (sz sz' : Nat → Nat) (n : Nat) (p : ByteArray) (hn : ∀ j, j < n → nm' (j + 1) = nm j) (hs : ∀ j, j < n → sz' (j + 1) = sz j) :
    ∀ m i, n - i ≤ m → gvAt nm' sz' (n + 1) p (i + 1) = gvAt nm sz n p i := by
  intro m
  induction m with
  | zero => intro i h; rw [gvAt_out _ _ _ _ _ (by omega), gvAt_out _ _ _ _ _ (by omega)]
  | succ m ih =>
    intro i h
    by_cases hi : i < n
    · rw [gvAt_step _ _ _ _ _ (by omega), gvAt_step nm sz n p i hi, hn i hi, hs i hi, show i + 1 + 1 + sz i = (i + 1 + sz i) + 1 from by omega, ih (i + 1 + sz i) (by omega)]
    · rw [gvAt_out _ _ _ _ _ (by omega), gvAt_out _ _ _ _ _ (by omega)]
theorem gv_back (nm nm' : Nat → ByteArray) (sz sz' : Nat → Nat) (n : Nat) (p : ByteArray) (hn : ∀ j, j < n → nm' j = nm j) (hs : ∀ j, j < n → sz' j = sz j) (hz : ∀ j, j < n → j + 1 + sz j ≤ n) :
    ∀ m i, i ≤ n → n - i ≤ m → gvAt nm' sz' (n + 1) p i = (gvAt nm sz n p i || eqs (nm' n) p) := by
  intro m
  induction m with
  | zero =>
    intro i h1 h
    obtain rfl : i = n := by omega
    rw [gvAt_step _ _ _ _ _ (by omega), gvAt_out nm' _ _ _ _ (by omega), gvAt_out nm _ _ _ _ (by omega)]
    simp
  | succ m ih =>
    intro i h1 h
    by_cases hi : i < n
    · rw [gvAt_step _ _ _ _ _ (by omega), gvAt_step nm sz n p i hi, hn i hi, hs i hi, ih (i + 1 + sz i) (hz i hi) (by omega), Bool.or_assoc]
    · obtain rfl : i = n := by omega
      rw [gvAt_step _ _ _ _ _ (by omega), gvAt_out nm' _ _ _ _ (by omega), gvAt_out nm _ _ _ _ (by omega)]
      simp

theorem getD_app_lt (l m : List Int) (i : Nat) (h : i < l.length) : (l ++ m).getD i 0 = l.getD i 0 := by
  simp [List.getD, List.getElem?_append_left h]
theorem getD_app_at (l : List Int) (x : Int) : (l ++ [x]).getD l.length 0 = x := by
  simp [List.getD]

theorem front_law (S F T Z : List Int) (s p : ByteArray) (hw : Well S.length F T Z) :
    givenB (S ++ nums s) ((S.length : Int) :: F) (((S.length : Int) + s.size) :: T) (0 :: Z) p = (eqs s p || givenB S F T Z p) := by
  unfold givenB
  rw [List.length_cons, gvAt_step _ _ _ _ _ (by omega)]
  have e0 : nmOf (S ++ nums s) ((S.length : Int) :: F) (((S.length : Int) + s.size) :: T) 0 = s := by
    unfold nmOf
    exact cut_new S s
  rw [e0]
  have ez : 0 + 1 + szOf (0 :: Z) 0 = 0 + 1 := by simp [szOf]
  rw [ez, gv_shift (nmOf S F T) _ (szOf Z) _ F.length p ?_ ?_ F.length 0 (by omega)]
  · intro j hj
    obtain ⟨h1, h2, h3, _⟩ := hw.2.2 j hj
    unfold nmOf
    simp only [List.getD_cons_succ]
    exact cut_old _ _ _ _ h1 h2 h3
  · intro j hj
    simp [szOf]
theorem back_law (S F T Z : List Int) (s p : ByteArray) (hw : Well S.length F T Z) :
    givenB (S ++ nums s) (F ++ [(S.length : Int)]) (T ++ [(S.length : Int) + s.size]) (Z ++ [0]) p = (givenB S F T Z p || eqs s p) := by
  unfold givenB
  have eT := hw.1
  have eZ := hw.2.1
  rw [List.length_append, List.length_singleton]
  rw [gv_back (nmOf S F T) _ (szOf Z) _ F.length p ?_ ?_ ?_ F.length 0 (by omega) (by omega)]
  · congr 2
    unfold nmOf
    rw [getD_app_at, ← eT, getD_app_at]
    exact cut_new S s
  · intro j hj
    obtain ⟨h1, h2, h3, _⟩ := hw.2.2 j hj
    unfold nmOf
    rw [getD_app_lt _ _ _ hj, getD_app_lt _ _ _ (by omega)]
    exact cut_old _ _ _ _ h1 h2 h3
  · intro j hj
    unfold szOf
    rw [getD_app_lt _ _ _ (by omega)]
  · intro j hj
    obtain ⟨_, _, _, h4, h5⟩ := hw.2.2 j hj
    unfold szOf
    omega
theorem eqs_self (s : ByteArray) : eqs s s = true := by simp [eqs]
theorem eqs_comm (a b : ByteArray) : eqs a b = eqs b a := by
  unfold eqs
  rw [Bool.eq_iff_iff]; simp only [beq_iff_eq]; exact ⟨fun h => h.symm, fun h => h.symm⟩

theorem front_well (S F T Z : List Int) (s : ByteArray) (hw : Well S.length F T Z) : Well (S.length + s.size) ((S.length : Int) :: F) (((S.length : Int) + s.size) :: T) (0 :: Z) := by
  refine ⟨by simp [hw.1], by simp [hw.2.1], fun i hi => ?_⟩
  cases i with
  | zero => refine ⟨?_, ?_, ?_, ?_, ?_⟩ <;> simp <;> omega
  | succ j =>
    have hj : j < F.length := by simpa using hi
    obtain ⟨h1, h2, h3, h4, h5⟩ := hw.2.2 j hj
    simp only [List.getD_cons_succ, List.length_cons]
    exact ⟨h1, h2, by omega, h4, by omega⟩
theorem back_well (S F T Z : List Int) (s : ByteArray) (hw : Well S.length F T Z) : Well (S.length + s.size) (F ++ [(S.length : Int)]) (T ++ [(S.length : Int) + s.size]) (Z ++ [0]) := by
  have eT := hw.1
  have eZ := hw.2.1
  refine ⟨by simp [eT], by simp [eZ], fun i hi => ?_⟩
  have hi' : i < F.length + 1 := by simpa using hi
  by_cases h : i < F.length
  · obtain ⟨h1, h2, h3, h4, h5⟩ := hw.2.2 i h
    rw [getD_app_lt _ _ _ h, getD_app_lt _ _ _ (by omega), getD_app_lt _ _ _ (by omega)]
    simp only [List.length_append, List.length_singleton]
    exact ⟨h1, h2, by omega, h4, by omega⟩
  · obtain rfl : i = F.length := by omega
    rw [getD_app_at]
    have e1 : (T ++ [(S.length : Int) + s.size]).getD F.length 0 = (S.length : Int) + s.size := by rw [← eT]; exact getD_app_at _ _
    have e2 : (Z ++ [0]).getD F.length 0 = 0 := by rw [← eZ]; exact getD_app_at _ _
    rw [e1, e2]
    simp only [List.length_append, List.length_singleton]
    refine ⟨?_, ?_, ?_, ?_, ?_⟩ <;> omega
end Go.Proofs.Qxb6625799a
