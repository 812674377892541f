/-
  'Rows.FnDigitsInsertOneByteSaid': the walk by hand, the frame by the kit's program (proof-skeleton.mjs).
-/
import Derived.Test.Qxb6630578aRows
import Derived.WalkKit
import Derived.ProofKit
import Derived.OpenShut
import Derived.ShutString
import Derived.Test.Qxb6630578aBase
import Derived.WalkSpells
import Derived.Deep.QuietTactic
import Derived.BigQuiet
import Derived.Lib.IndexBytes
import Derived.Laws.IdiomStrings
namespace Go.Proofs.Qxb6630578a.fnDigitsInsertOneByte
open Go.ChangeShapes Go.WideShapes Go.ChangeAt Go.RowKit
open Go.ChangeMaps (open_string shut_string)
set_option linter.unusedVariables false      -- a walk need not use every 'w<i>' (that an integer argument fits its kind)

theorem own : ownKnob Try.prog.godebug = none := by kernel_rfl


theorem bytes_any (s : ByteArray) (i c : Int) (w0 : s.size ≤ maxLen) (w : World) :
    Calls Try.prog 5 #[.string s, .int .i64 i, .int .u8 c] w fun e w' => (∃ r : Bool, e = .returned (.bool r)) ∧ w' = w := by
  unfold maxLen at w0
  go_enter Try.func5, Try.ntmps5
  go_wp2
  all_goals (go_ret; exact ⟨⟨_, rfl⟩, rfl⟩)

def one (c : UInt8) : ByteArray := ⟨#[c]⟩
theorem one_size (c : UInt8) : (one c).size = 1 := rfl
theorem conv_one (c : UInt8) (w : World) : (convert 23 9 (.slice (some ⟨w.heap.size, 0, none⟩) 1 1)).run Try.prog (w.alloc (.cells #[.int .u8 c.toNat] 5)) = .ok (.string (one c)) (w.alloc (.cells #[.int .u8 c.toNat] 5)) := by
  refine run_convert_bytes_back _ 23 9 5 ⟨w.heap.size, 0, none⟩ 1 [c] Try.underlying23 Try.underlying5 Try.underlying9 ?_
  intro j hj
  have : j = 0 := by simp at hj; omega
  subst this
  simp [Addr.add]

theorem grown_drewN {w v : World} (h : Grown w v) (n : Nat) : Grown w (v.drewN n) := by
  induction n with
  | zero => exact h
  | succ n ih => exact Grown.drew ih
theorem ins_data (s : ByteArray) (n : Nat) (c : UInt8) : (s.extract 0 n ++ one c ++ s.extract n s.size).data.toList = s.data.toList.take n ++ [c] ++ s.data.toList.drop n := by
  have e1 : (s.extract 0 n).data.toList = s.data.toList.take n := by simp [ByteArray.data_extract]
  rw [ByteArray.data_append, ByteArray.data_append, Array.toList_append, Array.toList_append, e1, Lib.extract_to_end]
  rfl
theorem one_dgs (c : UInt8) : dgs (one c) = isDi (c.toNat : Int) := by
  simp [dgs, dg, one, isDi, isD]
theorem ins_law (s : ByteArray) (n : Nat) (c : UInt8) : dgs (s.extract 0 n ++ one c ++ s.extract n s.size) = ((s.toList.isEmpty || dgs s) && isDi (c.toNat : Int)) := by
  have hc : isDi (c.toNat : Int) = isD c := rfl
  unfold dgs
  rw [ins_data, ByteArray.toList_eq, hc]
  generalize s.data.toList = l
  have e : (l.take n ++ [c] ++ l.drop n).all isD = (l.all isD && isD c) := by
    conv => rhs; rw [← List.take_append_drop n l, List.all_append]
    simp only [List.all_append, List.all_cons, List.all_nil, Bool.and_true]
    cases (l.take n).all isD <;> cases (l.drop n).all isD <;> cases isD c <;> rfl
  unfold dg
  rw [e]
  have e2 : (l.take n ++ [c] ++ l.drop n).isEmpty = false := by
    rw [List.isEmpty_eq_false_iff]; simp
  rw [e2]
  cases l with
  | nil => simp
  | cons x xs => simp

set_option maxHeartbeats 1000000 in
theorem walkOn (s : ByteArray) (n : Nat) (c : UInt8) (w0 : s.size ≤ 1048576) (h1 : n ≤ s.size) (w : World) :
    Calls Try.prog 3 #[.string s, .int .i64 n, .int .u8 c.toNat] w fun e w' => e = .returned (.bool true) ∧ Grown w w' := by
  have hone := conv_one c
  have hz := one_size c
  have HT : Hid (dgs (s.extract 0 n ++ one c ++ s.extract n s.size) = ((s.toList.isEmpty || dgs s) && isDi (c.toNat : Int))) := ins_law s n c
  have HC : Hid (dgs (one c) = isDi (c.toNat : Int)) := one_dgs c
  have hts : (s.extract 0 n ++ one c ++ s.extract n s.size).size ≤ maxLen := by
    unfold maxLen; simp [one_size]; omega
  go_enter Try.func3, Try.ntmps3
  go_wp2_with fail
  refine (bytes_any s _ _ (by unfold maxLen; omega) _).mono ?_
  rintro e w' ⟨⟨r, rfl⟩, rfl⟩
  cases r
  · go_wp2_with fail
    go_ret
    exact ⟨rfl, Grown.refl _⟩
  go_wp2_with fail
  go_quiet (fail)
  generalize s.extract 0 n ++ one c ++ s.extract n s.size = t at *
  go_wp2_with fail
  refine (digits_any t _ hts).mono ?_
  rintro e w1 ⟨rfl, rfl⟩
  go_wp2_with fail
  refine (digits_any s _ (by unfold maxLen; omega)).mono ?_
  rintro e w1 ⟨rfl, rfl⟩
  go_wp2_with fail
  refine (digits_any (one c) _ (by rw [one_size]; unfold maxLen; omega)).mono ?_
  rintro e w1 ⟨rfl, rfl⟩
  go_wp2_with fail
  refine (isDigit_any _ _ (by omega) (by have := c.toNat_lt; omega)).mono ?_
  rintro e w1 ⟨rfl, rfl⟩
  rw [HT.out, HC.out]
  generalize isDi (c.toNat : Int) = dc
  generalize hds : dgs s = ds
  generalize hes : s.toList.isEmpty = es
  have Hes : Hid (s.toList.isEmpty = es) := hes
  clear hds hes HT HC
  cases dc <;> cases ds <;> cases es
  all_goals
    have hes := Hes.out
    go_wp2_with fail
    go_ret
    exact ⟨rfl, grown_drewN (Grown.alloc (Grown.refl _) _ _) _⟩

set_option maxHeartbeats 1000000 in
theorem walkOff (s : ByteArray) (i c : Int) (w0 : s.size ≤ maxLen) (hoff : 1048576 < s.size ∨ i < 0 ∨ (s.size : Int) < i) (w : World) :
    Calls Try.prog 3 #[.string s, .int .i64 i, .int .u8 c] w fun e w' => e = .returned (.bool true) ∧ Grown w w' := by
  by_cases c0 : 1048576 < s.size
  · go_enter Try.func3, Try.ntmps3
    go_wp2_with fail
    refine (bytes_any s _ _ w0 _).mono ?_
    unfold maxLen at w0
    rintro e w' ⟨⟨r, rfl⟩, rfl⟩
    cases r <;> (go_wp2_with fail; go_ret; exact ⟨rfl, Grown.refl _⟩)
  by_cases c1 : i < 0
  · go_enter Try.func3, Try.ntmps3
    go_wp2_with fail
    refine (bytes_any s _ _ w0 _).mono ?_
    unfold maxLen at w0
    rintro e w' ⟨⟨r, rfl⟩, rfl⟩
    cases r <;> (go_wp2_with fail; go_ret; exact ⟨rfl, Grown.refl _⟩)
  have c2 : (s.size : Int) < i := by omega
  clear hoff
  go_enter Try.func3, Try.ntmps3
  go_wp2_with fail
  refine (bytes_any s _ _ w0 _).mono ?_
  unfold maxLen at w0
  rintro e w' ⟨⟨r, rfl⟩, rfl⟩
  cases r <;> (go_wp2_with fail; go_ret; exact ⟨rfl, Grown.refl _⟩)

theorem walk (a0 : ByteArray) (a1 : Int) (a2 : Int) (w0 : a0.size ≤ maxLen) (w1 : (Lit.int .i64 a1).wf = true) (w2 : (Lit.int .u8 a2).wf = true) (w : World) :
    Calls Try.prog 3 #[.string a0, .int .i64 a1, .int .u8 a2] w fun e w' => e = .returned (.bool true) ∧ Grown w w' := by
  by_cases hoff : 1048576 < a0.size ∨ a1 < 0 ∨ (a0.size : Int) < a1
  · exact walkOff a0 a1 a2 w0 hoff w
  · obtain ⟨n, rfl⟩ := Int.eq_ofNat_of_zero_le (show 0 ≤ a1 by omega)
    have hb := bounds_u8 w2
    obtain ⟨c, hc⟩ : ∃ c : UInt8, a2 = (c.toNat : Int) := ⟨UInt8.ofNat a2.toNat, by simp; omega⟩
    subst hc
    exact walkOn a0 n c (by omega) (by omega) w

/-! ### THE ROW's STEP: WRITTEN OUT: LEAVE IT -/
set_option maxRecDepth 100000 in
theorem lifted (os : Os) (started : os.Started) (H : Type) (enc : TypeId × Value → H) :
    ReturnsInHanded {} Try.checked os 3 .any (Rows.fnDigitsInsertOneByteSpec.pre6 enc Try.prog Try.f3 Rows.fnDigitsInsertOneByteRow.domain false) (Rows.fnDigitsInsertOneByteSpec.post enc Try.prog Try.f3 false true false false) := by
  refine returnsInHanded_of_change (C := Try.checked) own started (by kernel_rfl) Try.func3
    (ChangeSpec.witness6 (enc := enc) (C := Try.checked) false ⟨#[], #[.string ByteArray.empty, .int .i64 0, .int .u8 0], []⟩ 8 (by kernel_rfl) (by kernel_rfl) (by kernel_rfl) (by kernel_rfl)) ?_
  intro W base args ds gs before hval0 hW hcnd _
  have hval : ∀ (j : Nat) t v, Try.f3.params[j]? = some t → args[j]? = some v → Value.okWide Try.prog W .any base t v := hval0
  have hW' := hW
  obtain ⟨p, q, hA0, hV, rfl, hfz, hnd⟩ := hW
  have hA : DataW.TrodAll enc Try.prog W 0 (fun _ => true) true Try.f3.params.toList args.toList ds p := hA0
  rw [Try.params3] at hA hval
  obtain ⟨v0, vs0, d0, ds0, p0, q0, hargs, rfl, rfl, h0, r0⟩ := trodAll_cons hA
  obtain ⟨v1, vs1, d1, ds1, p1, q1, rfl, rfl, rfl, h1, r1⟩ := trodAll_cons r0
  obtain ⟨v2, vs2, d2, ds2, p2, q2, rfl, rfl, rfl, h2, r2⟩ := trodAll_cons r1
  obtain ⟨rfl, rfl, rfl⟩ := trodAll_nil r2
  obtain rfl : args = #[v0, v1, v2] := by cases args; simp_all
  obtain ⟨rfl, rfl⟩ := trodVars_none hV
  obtain ⟨a0, rfl, rfl, rfl, w0⟩ := open_string Try.underlying9 (hval 0 9 v0 rfl rfl) h0
  obtain ⟨a1, rfl, rfl, rfl, w1⟩ := open_int Try.underlying3 (hval 1 3 v1 rfl rfl) h1
  obtain ⟨a2, rfl, rfl, rfl, w2⟩ := open_int Try.underlying5 (hval 2 5 v2 rfl rfl) h2
  clear hA0 hval0
  simp only [List.append_nil] at hW'
  refine (walk a0 a1 a2 w0 w1 w2 W).mono fun e W' ⟨he, hg⟩ => ?_
  subst he
  exact ⟨_, rfl, post_of_same (pa := []) (pv := []) hW' (fun _ _ _ => (trodAll_cons_mk (shut_bool Try.underlying4 _) trodAll_mk0)) (fun sp _ => (trodAll_cons_mk (shut_string Try.underlying9 w0) (trodAll_cons_mk (shut_int Try.underlying3 w1) (trodAll_cons_mk (shut_int Try.underlying5 w2) trodAll_mk0)))) (fun _ _ => rfl) rfl
    (hg.frame _) hg.2.1 (ok_one (by kernel_rfl) rfl (okWide_bool_mk Try.underlying4 _))⟩

theorem over : Rows.fnDigitsInsertOneByteRow.holds Try.pinned (OpenSpec.ofChange Rows.fnDigitsInsertOneByteSpec) :=
  OpenClaim.holds_of_wide 3 Try.f3 rfl rfl rfl rfl rfl rfl rfl ⟨rfl, rfl, rfl, rfl, rfl⟩ rfl rfl rfl rfl rfl (by kernel_rfl) Try.func3 (by kernel_rfl)
    (of_decide_eq_true (by kernel_rfl)) (by unfold Func.isWrapper; first | (rw [if_pos (by decide +kernel)]; kernel_rfl) | (rw [if_neg (by decide +kernel)]; exact ⟨rfl, rfl⟩))
    (fun os started H enc _ => lifted os started H enc)

/-- ████ THE STATEMENT ████ -/
theorem proved : Rows.FnDigitsInsertOneByteSaid :=
  over
#print axioms proved
end Go.Proofs.Qxb6630578a.fnDigitsInsertOneByte
