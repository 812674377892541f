/-
  'Rows.FnDigitsSplitAnyCutSaid': the walk by hand, the frame by the kit's program (proof-skeleton.mjs).
-/
import Derived.Test.Qxb6630578aRows
import Derived.WalkKit
import Derived.ProofKit
import Derived.OpenShut
import Derived.ShutString
import Derived.Test.Qxb6630578aBase
import Derived.WalkSpells
import Derived.Deep.QuietTactic
import Derived.BigQuiet
import Derived.Lib.IndexBytes
namespace Go.Proofs.Qxb6630578a.fnDigitsSplitAnyCut
open Go.ChangeShapes Go.WideShapes Go.ChangeAt Go.RowKit
open Go.ChangeMaps (open_string shut_string)
set_option linter.unusedVariables false      -- a walk need not use every 'w<i>' (that an integer argument fits its kind)

theorem own : ownKnob Try.prog.godebug = none := by kernel_rfl


theorem bytes_any (s : ByteArray) (i : Int) (w0 : s.size ≤ maxLen) (w : World) :
    Calls Try.prog 8 #[.string s, .int .i64 i] w fun e w' => (∃ r : Bool, e = .returned (.bool r)) ∧ w' = w := by
  unfold maxLen at w0
  go_enter Try.func8, Try.ntmps8
  go_wp2
  all_goals (go_ret; exact ⟨⟨_, rfl⟩, rfl⟩)

/-! ### The plain laws -/
theorem ext_take (s : ByteArray) (n : Nat) : (s.extract 0 n).data.toList = s.data.toList.take n := by
  simp [ByteArray.data_extract]
theorem ext_one (s : ByteArray) (n : Nat) (h : n < s.size) : (s.extract n (n + 1)).data.toList = [s[n]] := by
  have h' : n < s.data.toList.length := by simpa using h
  have e : (s.extract n (n + 1)).data.toList = (s.data.toList.drop n).take 1 := by
    simp [ByteArray.data_extract, List.take_drop]
  rw [e, List.drop_eq_getElem_cons h']
  simp [ByteArray.getElem_eq_getElem_data]
theorem split_law (l : List UInt8) (n : Nat) (h0 : 0 < n) (h1 : n < l.length) : dg l = (dg (l.take n) && dg (l.drop n)) := by
  unfold dg
  have e1 : l.isEmpty = false := by
    rw [List.isEmpty_eq_false_iff, ← List.length_pos_iff]; omega
  have e2 : (l.take n).isEmpty = false := by
    rw [List.isEmpty_eq_false_iff, ← List.length_pos_iff, List.length_take]; omega
  have e3 : (l.drop n).isEmpty = false := by
    rw [List.isEmpty_eq_false_iff, ← List.length_pos_iff, List.length_drop]; omega
  rw [e1, e2, e3]
  conv => lhs; rw [← List.take_append_drop n l, List.all_append]
  simp
theorem dg_one (c : UInt8) : dg [c] = isD c := by simp [dg]
theorem not_empty (s : ByteArray) (h : 0 < s.size) : s.toList.isEmpty = false := by
  rw [ByteArray.toList_eq, List.isEmpty_eq_false_iff, ← List.length_pos_iff]; simpa using h
theorem empty (s : ByteArray) (h : s.size = 0) : s.toList.isEmpty = true := by
  rw [ByteArray.toList_eq, List.isEmpty_iff_length_eq_zero]; simpa using h
theorem dg_empty (s : ByteArray) (h : s.size = 0) : dg s.data.toList = false := by
  have : s.data.toList.isEmpty = true := by rw [List.isEmpty_iff_length_eq_zero]; simpa using h
  simp [dg, this]

theorem grown_drewN (w : World) (n : Nat) : Grown w (w.drewN n) := by
  induction n with
  | zero => exact Grown.refl _
  | succ n ih => exact Grown.drew ih


set_option maxHeartbeats 1000000 in
theorem walkMid (s : ByteArray) (n : Nat) (w0 : s.size ≤ 1048576) (h0 : 0 < n) (h1 : n < s.size) (w : World) :
    Calls Try.prog 4 #[.string s, .int .i64 n] w fun e w' => e = .returned (.bool true) ∧ Grown w w' := by
  have e0 : ((n : Int) == 0) = false := beq_eq_false_iff_ne.2 (by omega)
  have e1 : ((n : Int) == (s.size : Int)) = false := beq_eq_false_iff_ne.2 (by omega)
  have e2 := not_empty s (by omega)
  have HL : Hid (dgs s = (dgs (s.extract 0 n) && dgs (s.extract n s.size))) := by
    unfold Hid dgs; rw [ext_take, Lib.extract_to_end]; exact split_law _ n h0 (by simpa using h1)
  have HO : dgs (s.extract n (n + 1)) = isDi (s[n].toNat : Int) := by
    unfold dgs; rw [ext_one s n h1, dg_one]; rfl
  go_enter Try.func4, Try.ntmps4
  go_wp2_with fail
  refine (bytes_any s _ (by unfold maxLen; omega) _).mono ?_
  rintro e w' ⟨⟨r, rfl⟩, rfl⟩
  cases r
  · go_wp2_with fail
    go_ret
    exact ⟨rfl, Grown.refl _⟩
  go_wp2_with fail
  refine (digits_any s _ (by unfold maxLen; omega)).mono ?_
  rintro e w1 ⟨rfl, rfl⟩
  go_wp2_with fail
  refine (digits_any (s.extract 0 n) _ (by unfold maxLen; simp; omega)).mono ?_
  rintro e w2 ⟨rfl, rfl⟩
  go_wp2_with fail
  refine (digits_any (s.extract n s.size) _ (by unfold maxLen; simp; omega)).mono ?_
  rintro e w3 ⟨rfl, rfl⟩
  rw [HL.out]
  generalize dgs (s.extract 0 n) = dl
  generalize dgs (s.extract n s.size) = dr
  clear HL
  cases dl <;> cases dr
  all_goals
    go_wp2_with fail
    go_quiet ((first | (go_at_call 6; exact Calls.quiet_of_same (digits_any _ _ (by unfold maxLen; simp; omega))) | (go_at_call 7; exact Calls.quiet_of_same (isDigit_any _ _ (by omega) (by have := s[n].toNat_lt; omega)))))
    go_wp2_with fail
    go_ret
    exact ⟨rfl, grown_drewN _ _⟩

set_option maxHeartbeats 1000000 in
theorem walkLeft (s : ByteArray) (n : Nat) (w0 : s.size ≤ 1048576) (h0 : n = 0) (h1 : n < s.size) (w : World) :
    Calls Try.prog 4 #[.string s, .int .i64 n] w fun e w' => e = .returned (.bool true) ∧ Grown w w' := by
  have e0 : ((n : Int) == 0) = true := beq_iff_eq.2 (by omega)
  have e1 : ((n : Int) == (s.size : Int)) = false := beq_eq_false_iff_ne.2 (by omega)
  have e2 := not_empty s (by omega)
  have HL : Hid (dgs (s.extract n s.size) = dgs s) := by
    unfold Hid dgs; rw [Lib.extract_to_end, h0]; rfl
  have HO : dgs (s.extract n (n + 1)) = isDi (s[n].toNat : Int) := by
    unfold dgs; rw [ext_one s n h1, dg_one]; rfl
  have Hn : Hid (n = 0) := h0
  clear h0
  go_enter Try.func4, Try.ntmps4
  go_wp2_with fail
  refine (bytes_any s _ (by unfold maxLen; omega) _).mono ?_
  rintro e w' ⟨⟨r, rfl⟩, rfl⟩
  cases r
  · go_wp2_with fail
    go_ret
    exact ⟨rfl, Grown.refl _⟩
  go_wp2_with fail
  refine (digits_any s _ (by unfold maxLen; omega)).mono ?_
  rintro e w1 ⟨rfl, rfl⟩
  go_wp2_with fail
  refine (digits_any (s.extract n s.size) _ (by unfold maxLen; simp; omega)).mono ?_
  rintro e w3 ⟨rfl, rfl⟩
  rw [HL.out]
  generalize dgs s = dr
  clear HL
  cases dr
  all_goals
    go_wp2_with fail
    go_quiet ((first | (go_at_call 6; exact Calls.quiet_of_same (digits_any _ _ (by unfold maxLen; simp; omega))) | (go_at_call 7; exact Calls.quiet_of_same (isDigit_any _ _ (by omega) (by have := s[n].toNat_lt; omega)))))
    go_wp2_with fail
    go_ret
    exact ⟨rfl, grown_drewN _ _⟩

set_option maxHeartbeats 1000000 in
theorem walkRight (s : ByteArray) (n : Nat) (w0 : s.size ≤ 1048576) (h0 : 0 < n) (h1 : n = s.size) (w : World) :
    Calls Try.prog 4 #[.string s, .int .i64 n] w fun e w' => e = .returned (.bool true) ∧ Grown w w' := by
  have e0 : ((n : Int) == 0) = false := beq_eq_false_iff_ne.2 (by omega)
  have e1 : ((n : Int) == (s.size : Int)) = true := beq_iff_eq.2 (by omega)
  have e2 := not_empty s (by omega)
  have HL : Hid (dgs (s.extract 0 n) = dgs s) := by
    unfold Hid dgs; rw [ext_take, List.take_of_length_le (by simp; omega)]
  have h2 : n ≤ s.size := by omega
  have h3 : ¬ (n : Int) < (s.size : Int) := by omega
  clear h1
  go_enter Try.func4, Try.ntmps4
  go_wp2_with fail
  refine (bytes_any s _ (by unfold maxLen; omega) _).mono ?_
  rintro e w' ⟨⟨r, rfl⟩, rfl⟩
  cases r
  · go_wp2_with fail
    go_ret
    exact ⟨rfl, Grown.refl _⟩
  go_wp2_with fail
  refine (digits_any s _ (by unfold maxLen; omega)).mono ?_
  rintro e w1 ⟨rfl, rfl⟩
  go_wp2_with fail
  refine (digits_any (s.extract 0 n) _ (by unfold maxLen; simp; omega)).mono ?_
  rintro e w2 ⟨rfl, rfl⟩
  rw [HL.out]
  generalize dgs s = dr
  clear HL
  cases dr
  all_goals
    go_wp2_with fail
    go_ret
    exact ⟨rfl, Grown.refl _⟩

set_option maxHeartbeats 1000000 in
theorem walkNone (s : ByteArray) (n : Nat) (w0 : s.size ≤ 1048576) (h0 : n = 0) (h1 : s.size = 0) (w : World) :
    Calls Try.prog 4 #[.string s, .int .i64 n] w fun e w' => e = .returned (.bool true) ∧ Grown w w' := by
  have e0 : ((n : Int) == 0) = true := beq_iff_eq.2 (by omega)
  have e1 : ((n : Int) == (s.size : Int)) = true := beq_iff_eq.2 (by omega)
  have e2 := empty s h1
  have HL : Hid (dgs s = false) := dg_empty s h1
  have h3 : ¬ (n : Int) < (s.size : Int) := by omega
  have h2 : n ≤ s.size := by omega
  clear h0 h1
  go_enter Try.func4, Try.ntmps4
  go_wp2_with fail
  refine (bytes_any s _ (by unfold maxLen; omega) _).mono ?_
  rintro e w' ⟨⟨r, rfl⟩, rfl⟩
  cases r
  · go_wp2_with fail
    go_ret
    exact ⟨rfl, Grown.refl _⟩
  go_wp2_with fail
  refine (digits_any s _ (by unfold maxLen; omega)).mono ?_
  rintro e w1 ⟨rfl, rfl⟩
  rw [HL.out]
  go_wp2_with fail
  go_ret
  exact ⟨rfl, Grown.refl _⟩

set_option maxHeartbeats 1000000 in
theorem walkOff (s : ByteArray) (i : Int) (w0 : s.size ≤ maxLen) (hoff : 1048576 < s.size ∨ i < 0 ∨ (s.size : Int) < i) (w : World) :
    Calls Try.prog 4 #[.string s, .int .i64 i] w fun e w' => e = .returned (.bool true) ∧ Grown w w' := by
  by_cases c0 : 1048576 < s.size
  · go_enter Try.func4, Try.ntmps4
    go_wp2_with fail
    refine (bytes_any s _ w0 _).mono ?_
    unfold maxLen at w0
    rintro e w' ⟨⟨r, rfl⟩, rfl⟩
    cases r <;> (go_wp2_with fail; go_ret; exact ⟨rfl, Grown.refl _⟩)
  by_cases c1 : i < 0
  · go_enter Try.func4, Try.ntmps4
    go_wp2_with fail
    refine (bytes_any s _ w0 _).mono ?_
    unfold maxLen at w0
    rintro e w' ⟨⟨r, rfl⟩, rfl⟩
    cases r <;> (go_wp2_with fail; go_ret; exact ⟨rfl, Grown.refl _⟩)
  have c2 : (s.size : Int) < i := by omega
  clear hoff
  go_enter Try.func4, Try.ntmps4
  go_wp2_with fail
  refine (bytes_any s _ w0 _).mono ?_
  unfold maxLen at w0
  rintro e w' ⟨⟨r, rfl⟩, rfl⟩
  cases r <;> (go_wp2_with fail; go_ret; exact ⟨rfl, Grown.refl _⟩)

theorem walk (a0 : ByteArray) (a1 : Int) (w0 : a0.size ≤ maxLen) (w1 : (Lit.int .i64 a1).wf = true) (w : World) :
    Calls Try.prog 4 #[.string a0, .int .i64 a1] w fun e w' => e = .returned (.bool true) ∧ Grown w w' := by
  by_cases hoff : 1048576 < a0.size ∨ a1 < 0 ∨ (a0.size : Int) < a1
  · exact walkOff a0 a1 w0 hoff w
  · obtain ⟨n, rfl⟩ := Int.eq_ofNat_of_zero_le (show 0 ≤ a1 by omega)
    by_cases h0 : n = 0
    · by_cases h1 : a0.size = 0
      · exact walkNone a0 n (by omega) h0 h1 w
      · exact walkLeft a0 n (by omega) h0 (by omega) w
    · by_cases h1 : n = a0.size
      · exact walkRight a0 n (by omega) (by omega) h1 w
      · exact walkMid a0 n (by omega) (by omega) (by omega) w

/-! ### THE ROW's STEP: WRITTEN OUT: LEAVE IT -/
set_option maxRecDepth 100000 in
theorem lifted (os : Os) (started : os.Started) (H : Type) (enc : TypeId × Value → H) :
    ReturnsInHanded {} Try.checked os 4 .any (Rows.fnDigitsSplitAnyCutSpec.pre6 enc Try.prog Try.f4 Rows.fnDigitsSplitAnyCutRow.domain false) (Rows.fnDigitsSplitAnyCutSpec.post enc Try.prog Try.f4 false true false false) := by
  refine returnsInHanded_of_change (C := Try.checked) own started (by kernel_rfl) Try.func4
    (ChangeSpec.witness6 (enc := enc) (C := Try.checked) false ⟨#[], #[.string ByteArray.empty, .int .i64 0], []⟩ 8 (by kernel_rfl) (by kernel_rfl) (by kernel_rfl) (by kernel_rfl)) ?_
  intro W base args ds gs before hval0 hW hcnd _
  have hval : ∀ (j : Nat) t v, Try.f4.params[j]? = some t → args[j]? = some v → Value.okWide Try.prog W .any base t v := hval0
  have hW' := hW
  obtain ⟨p, q, hA0, hV, rfl, hfz, hnd⟩ := hW
  have hA : DataW.TrodAll enc Try.prog W 0 (fun _ => true) true Try.f4.params.toList args.toList ds p := hA0
  rw [Try.params4] at hA hval
  obtain ⟨v0, vs0, d0, ds0, p0, q0, hargs, rfl, rfl, h0, r0⟩ := trodAll_cons hA
  obtain ⟨v1, vs1, d1, ds1, p1, q1, rfl, rfl, rfl, h1, r1⟩ := trodAll_cons r0
  obtain ⟨rfl, rfl, rfl⟩ := trodAll_nil r1
  obtain rfl : args = #[v0, v1] := by cases args; simp_all
  obtain ⟨rfl, rfl⟩ := trodVars_none hV
  obtain ⟨a0, rfl, rfl, rfl, w0⟩ := open_string Try.underlying9 (hval 0 9 v0 rfl rfl) h0
  obtain ⟨a1, rfl, rfl, rfl, w1⟩ := open_int Try.underlying3 (hval 1 3 v1 rfl rfl) h1
  clear hA0 hval0
  simp only [List.append_nil] at hW'
  refine (walk a0 a1 w0 w1 W).mono fun e W' ⟨he, hg⟩ => ?_
  subst he
  exact ⟨_, rfl, post_of_same (pa := []) (pv := []) hW' (fun _ _ _ => (trodAll_cons_mk (shut_bool Try.underlying4 _) trodAll_mk0)) (fun sp _ => (trodAll_cons_mk (shut_string Try.underlying9 w0) (trodAll_cons_mk (shut_int Try.underlying3 w1) trodAll_mk0))) (fun _ _ => rfl) rfl
    (hg.frame _) hg.2.1 (ok_one (by kernel_rfl) rfl (okWide_bool_mk Try.underlying4 _))⟩

theorem over : Rows.fnDigitsSplitAnyCutRow.holds Try.pinned (OpenSpec.ofChange Rows.fnDigitsSplitAnyCutSpec) :=
  OpenClaim.holds_of_wide 4 Try.f4 rfl rfl rfl rfl rfl rfl rfl ⟨rfl, rfl, rfl, rfl, rfl⟩ rfl rfl rfl rfl rfl (by kernel_rfl) Try.func4 (by kernel_rfl)
    (of_decide_eq_true (by kernel_rfl)) (by unfold Func.isWrapper; first | (rw [if_pos (by decide +kernel)]; kernel_rfl) | (rw [if_neg (by decide +kernel)]; exact ⟨rfl, rfl⟩))
    (fun os started H enc _ => lifted os started H enc)

/-- ████ THE STATEMENT ████ -/
theorem proved : Rows.FnDigitsSplitAnyCutSaid :=
  over
#print axioms proved
end Go.Proofs.Qxb6630578a.fnDigitsSplitAnyCut
