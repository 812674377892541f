/-
  'Rows.FnGivenFieldPutInAtEitherEndSaid': the walk by hand, the frame by the kit's program (proof-skeleton.mjs).
-/
import Derived.Test.Qxb6625799aRows
import Derived.WalkKit
import Derived.ProofKit
import Derived.OpenShut
import Derived.ShutString
import Derived.ChangeOld
import Derived.Below
import Derived.Test.Qxb6625799aFill
import Derived.Test.Qxb6625799aBun
import Derived.WalkSpells
import Derived.OwnWalk
import Derived.Deep.Cut
import Derived.Deep.CutRange
import Derived.Deep.Light
namespace Go.Proofs.Qxb6625799a.fnGivenFieldPutInAtEitherEnd
open Go.ChangeShapes Go.WideShapes Go.ChangeAt Go.RowKit
open Go.ChangeMaps (open_string shut_string)
set_option linter.unusedVariables false
set_option linter.unusedSimpArgs false

theorem own : ownKnob Try.prog.godebug = none := by kernel_rfl
theorem laidOut : laidOutB Try.prog = true := by kernel_rfl

/-- WHAT THE WALK IS TOLD OF A SLICE OF INTEGERS THAT CAME IN: it is nil; or it leads to a row of 'cap' cells, the numbers 'zs' (the first 'len' are its elements, the rest its spare room), each fitting its kind. -/
def IsRow (k : IntKind) (w : World) (a : Option Addr) (len cap : Nat) (zs : List Int) : Prop :=
  (a = none ∧ len = 0 ∧ cap = 0 ∧ zs = []) ∨
  ∃ x, a = some x ∧ len ≤ cap ∧ cap ≤ maxLen ∧ zs.length = cap ∧ (∀ i, i < zs.length → w.cell? (x.add i) = some (.int k (zs.getD i 0))) ∧ ∀ n ∈ zs, (Lit.int k n).wf = true


set_option maxRecDepth 100000 in
set_option maxHeartbeats 2000000 in
theorem walkOff (a0 a1 a2 a3 : Option Addr) (n0 n1 n2 n3 c0 c1 c2 c3 : Nat) (s p : ByteArray) (w : World) (h0 : n0 ≤ maxLen) (h1 : n1 ≤ maxLen) (h2 : n2 ≤ maxLen) (h3 : n3 ≤ maxLen) (h4 : s.size ≤ maxLen) (h5 : p.size ≤ maxLen)
    (hoff : 262144 < n0 ∨ 16384 < n1 ∨ 16384 < n2 ∨ 16384 < n3 ∨ 65536 < s.size ∨ 65536 < p.size) :
    Calls Try.prog 3 #[.slice a0 n0 c0, .slice a1 n1 c1, .slice a2 n2 c2, .slice a3 n3 c3, .string s, .string p] w fun e w' => e = .returned (.bool true) ∧ Below w.heap.size w w' := by
  go_enter Try.func3, Try.ntmps3
  go_wp2_with fail
  refine (bytes5 a0 a1 a2 a3 n0 n1 n2 n3 c0 c1 c2 c3 s p _ h0 h1 h2 h3 h4 h5).mono ?_
  unfold maxLen at h0 h1 h2 h3 h4 h5
  rintro e w' ⟨⟨r, rfl⟩, rfl⟩
  cases r
  · go_wp2_with fail
    go_ret
    exact ⟨rfl, Below.refl _ _⟩
  · go_wp2_with fail
    all_goals first | (exfalso; omega) | (go_ret; exact ⟨rfl, Below.refl _ _⟩)

theorem ints_one {kd : IntKind} (L : List Int) : ∀ v ∈ L.map (Value.int kd), v.oneCell' = true := by
  intro v hv
  rw [List.mem_map] at hv
  obtain ⟨n, _, rfl⟩ := hv
  rfl
theorem copy_src {kd : IntKind} {w wm : World} {x : Addr} {L : List Int} (h : Row kd w (some x) L) (hb : Below w.heap.size w wm) (h0 : 0 < L.length) : ∀ j v, (L.map (Value.int kd))[j]? = some v → wm.cell? (x.add j) = some v := by
  obtain ⟨b, off, hx, hlt, hc⟩ := h.at_pos h0
  cases hx
  intro j v hv
  have hj : j < L.length := by
    by_cases hj : j < L.length
    · exact hj
    · rw [List.getElem?_eq_none (by simp; omega)] at hv; cases hv
  rw [add_plain]
  rw [hb.cell (p := ⟨b, off + j, none⟩) hlt, hc j hj]
  simp [List.getElem?_eq_getElem hj] at hv
  simp [List.getD, hj, ← hv]

theorem getD_nums (S : List Int) (s : ByteArray) (k : Nat) (h : k < s.size) : (S ++ nums s).getD (S.length + k) 0 = (s[k].toNat : Int) := by
  have h2 : k < s.data.toList.length := by simpa using h
  simp [List.getD, nums, h, ByteArray.getElem_eq_getElem_data]

theorem given7n (a0 a1 a2 a3 : Option Addr) (ls cs c1 c2 c3 n : Nat) (S F T Z : List Int) (p : ByteArray) (w : World) (hF : F.length = n) (hn : n ≤ 16385) (hsrc : Src w a0 ls cs S) (h1 : Row .i64 w a1 F) (h2 : Row .i64 w a2 T) (h3 : Row .i64 w a3 Z) (hw : Well ls F T Z) :
    Calls Try.prog 7 #[.slice a0 ls cs, .slice a1 n c1, .slice a2 n c2, .slice a3 n c3, .string p] w fun e w' => e = .returned (.bool (givenB S F T Z p)) ∧ Below w.heap.size w w' := by
  subst hF
  exact given7 a0 a1 a2 a3 ls cs c1 c2 c3 S F T Z p w hn hsrc h1 h2 h3 hw
theorem src_of {w : World} {g : Nat} {S : List Int} {s : ByteArray} (h : Fill w g 5 .u8 (S ++ nums s) (S ++ nums s).length) (h0 : S.length ≤ 262144) (h4 : s.size ≤ 65536) : Src w (some ⟨g, 0, none⟩) (S.length + s.size) (S.length + s.size) (S ++ nums s) := by
  have e : (S ++ nums s).length = S.length + s.size := by rw [List.length_append, nums_length]
  have := h.src (by unfold maxLen; omega)
  rw [e] at this
  exact this

theorem drew_below {B : Nat} {w w' : World} (h : Below B w w') (q : Nat) : Below B w (w'.drewN q) := ⟨h.os, h.tape, h.output, h.size, h.block⟩

set_option maxRecDepth 100000 in
set_option maxHeartbeats 8000000 in
theorem walkOn (a0 a1 a2 a3 : Option Addr) (c0 c1 c2 c3 : Nat) (S F T Z : List Int) (s p : ByteArray) (w : World) (r0 : Came .u8 w a0 c0 S) (r1 : Came .i64 w a1 c1 F) (r2 : Came .i64 w a2 c2 T) (r3 : Came .i64 w a3 c3 Z)
    (h0 : S.length ≤ 262144) (h1 : F.length ≤ 16384) (h2 : T.length ≤ 16384) (h3 : Z.length ≤ 16384) (h4 : s.size ≤ 65536) (h5 : p.size ≤ 65536) :
    Calls Try.prog 3 #[.slice a0 S.length c0, .slice a1 F.length c1, .slice a2 T.length c2, .slice a3 Z.length c3, .string s, .string p] w fun e w' => e = .returned (.bool true) ∧ Below w.heap.size w w' := by
  have R0 : Hid (Came .u8 w a0 c0 S) := r0
  have R1 : Hid (Came .i64 w a1 c1 F) := r1
  have R2 : Hid (Came .i64 w a2 c2 T) := r2
  have R3 : Hid (Came .i64 w a3 c3 Z) := r3
  clear r0 r1 r2 r3
  obtain ⟨i5, hi5, hy0, hy1, hy2⟩ := info_parts Try.info5
  obtain ⟨i3, hi3, hx0, hx1, hx2⟩ := info_parts Try.info3
  have nq22 : ∀ (w : World) (a : Option Addr) (n c n' c' : Nat), (binOp .neq 22 (.slice a n c) (.slice none n' c')).run Try.prog w = .ok (.bool (!a.isNone)) w := fun w a n c n' c' => run_neq_slice_nil_any w 22 5 a n c n' c' Try.underlying22
  have nq23 : ∀ (w : World) (a : Option Addr) (n c n' c' : Nat), (binOp .neq 23 (.slice a n c) (.slice none n' c')).run Try.prog w = .ok (.bool (!a.isNone)) w := fun w a n c n' c' => run_neq_slice_nil_any w 23 3 a n c n' c' Try.underlying23
  go_enter Try.func3, Try.ntmps3
  go_wp2_with fail
  refine (bytes5 a0 a1 a2 a3 _ _ _ _ c0 c1 c2 c3 s p _ (by unfold maxLen; omega) (by unfold maxLen; omega) (by unfold maxLen; omega) (by unfold maxLen; omega) (by unfold maxLen; omega) (by unfold maxLen; omega)).mono ?_
  rintro e w' ⟨⟨r, rfl⟩, rfl⟩
  cases r
  · go_wp2_with fail
    go_ret
    exact ⟨rfl, Below.refl _ _⟩
  go_wp2_with fail
  refine (well6 a0 a1 a2 a3 S.length c0 c1 c2 c3 F T Z _ R1.out.1 R2.out.1 R3.out.1 h1 h0).mono ?_
  rintro e w1 ⟨⟨r, rfl, hwl⟩, q, hq⟩
  have hb1 : Below w'.heap.size w' w1 := by rw [hq]; exact drew_below (Below.refl _ _) q
  have HB1 : Hid (Below w'.heap.size w' w1) := hb1
  clear hq
  cases r
  · go_wp2_with fail
    go_ret
    exact ⟨rfl, HB1.out⟩
  have HWL : Hid (Well S.length F T Z) := hwl rfl
  have C0 : Hid (Came .u8 w1 a0 c0 S) := R0.out.below hb1
  have C1 : Hid (Came .i64 w1 a1 c1 F) := R1.out.below hb1
  have C2 : Hid (Came .i64 w1 a2 c2 T) := R2.out.below hb1
  have C3 : Hid (Came .i64 w1 a3 c3 Z) := R3.out.below hb1
  have hz1 := hb1.size
  clear hwl hb1 R0 R1 R2 R3
  go_upto_if 64 with fail
  go_cut [0, 13] from 63 to 71 (fun s0 _ wx => ∃ a' c', s0 = .slice a' S.length c' ∧ Src wx a' S.length c' S ∧ Below w1.heap.size w1 wx)
  case first =>
    cases a0 with
    | none =>
      obtain ⟨e1, e2⟩ := C0.out.2 rfl
      have E1 : Hid (S = []) := e1
      have E2 : Hid (c0 = 0) := e2
      clear e1 e2
      go_wp2_with fail
      go_meet
      go_light
      exact ⟨none, c0, rfl, .inl ⟨rfl, E1.out, by rw [E1.out]; rfl, E2.out⟩, Below.refl _ _⟩
    | some x =>
      go_wp2_with (at_make; refine wpList_make_full _ rfl _ _ 22 rfl w1.heap.size 5 i5 _ 1 Try.underlying22 hi5 hy0 hy1 _ _ _ _ S.length rfl rfl rfl rfl ?b2 ?b3 (Nat.le_refl _) ?_)
      case b2 => rw [hy2]; omega
      case b3 => unfold maxLen; omega
      intro wm hown hgrow
      have hbm : Below w1.heap.size w1 wm := (Below.refl _ _).grown hgrow (Nat.le_refl _) (fun k h => by cases h)
      obtain ⟨cur, hcur, hcl⟩ : ∃ cur : List Value, wm.heap[w1.heap.size]? = some (.cells cur.toArray 5 (0, 0)) ∧ cur.length = S.length := by
        obtain ⟨cur, g1, g2, _⟩ := Fill.ofMade .u8 S hown rfl
        exact ⟨cur.toList, by simpa using g1, by simpa using g2⟩
      have HM : Hid (wm.heap[w1.heap.size]? = some (.cells cur.toArray 5 (0, 0))) := hcur
      have HBM : Hid (Below w1.heap.size w1 wm) := hbm
      have HCL : Hid (cur.length = S.length) := hcl
      clear hown hgrow hbm hcur hcl
      go_wp2_with (refine wpList_copy_splice rfl _ _ 22 22 rfl 5 Try.underlying22 (by kernel_rfl) _ _ _ _ _ _ rfl rfl w1.heap.size 0 cur 5 HM.out (S.map (Value.int .u8)) (by simp) (fun hp => ⟨rfl, x, rfl, copy_src C0.out.1 HBM.out (by simpa using hp)⟩) (by simp [HCL.out]) (ints_one S) w1.heap.size w1 HBM.out (Nat.le_refl _) ?_)
      intro wp hw2 hbp
      have HBP : Hid (Below w1.heap.size w1 wp) := hbp
      clear hbp
      go_wp2_with fail
      go_meet
      go_light
      exact ⟨some ⟨w1.heap.size, 0, none⟩, S.length, rfl, (fill_copied HCL.out hw2.out).src (by unfold maxLen; omega), HBP.out⟩
  obtain ⟨b0, d0, rfl, hrw, hbx⟩ := hcut
  generalize wc = w2 at *
  have G0 : Hid (Src w2 b0 S.length d0 S) := hrw
  replace C1 : Hid (Came .i64 w2 a1 c1 F) := C1.out.below hbx
  replace C2 : Hid (Came .i64 w2 a2 c2 T) := C2.out.below hbx
  replace C3 : Hid (Came .i64 w2 a3 c3 Z) := C3.out.below hbx
  replace HB1 : Hid (Below w'.heap.size w' w2) := HB1.out.trans (hbx.mono hz1)
  replace hz1 : w'.heap.size ≤ w2.heap.size := HB1.out.size
  clear hrw hbx C0
  go_upto_if 73 with fail
  go_cut [1, 14] from 72 to 80 (fun s0 _ wx => ∃ a' c', s0 = .slice a' F.length c' ∧ Row .i64 wx a' F ∧ Below w2.heap.size w2 wx)
  case first =>
    cases a1 with
    | none =>
      obtain ⟨e1, e2⟩ := C1.out.2 rfl
      have E1 : Hid (F = []) := e1
      have E2 : Hid (c1 = 0) := e2
      clear e1 e2
      go_wp2_with fail
      go_meet
      go_light
      exact ⟨none, c1, rfl, .inl E1.out, Below.refl _ _⟩
    | some x =>
      go_wp2_with (at_make; refine wpList_make_full _ rfl _ _ 23 rfl w2.heap.size 3 i3 _ 1 Try.underlying23 hi3 hx0 hx1 _ _ _ _ F.length rfl rfl rfl rfl ?b2 ?b3 (Nat.le_refl _) ?_)
      case b2 => rw [hx2]; omega
      case b3 => unfold maxLen; omega
      intro wm hown hgrow
      have hbm : Below w2.heap.size w2 wm := (Below.refl _ _).grown hgrow (Nat.le_refl _) (fun k h => by cases h)
      obtain ⟨cur, hcur, hcl⟩ : ∃ cur : List Value, wm.heap[w2.heap.size]? = some (.cells cur.toArray 3 (0, 0)) ∧ cur.length = F.length := by
        obtain ⟨cur, g1, g2, _⟩ := Fill.ofMade .i64 F hown rfl
        exact ⟨cur.toList, by simpa using g1, by simpa using g2⟩
      have HM : Hid (wm.heap[w2.heap.size]? = some (.cells cur.toArray 3 (0, 0))) := hcur
      have HBM : Hid (Below w2.heap.size w2 wm) := hbm
      have HCL : Hid (cur.length = F.length) := hcl
      clear hown hgrow hbm hcur hcl
      go_wp2_with (refine wpList_copy_splice rfl _ _ 23 23 rfl 3 Try.underlying23 (by kernel_rfl) _ _ _ _ _ _ rfl rfl w2.heap.size 0 cur 3 HM.out (F.map (Value.int .i64)) (by simp) (fun hp => ⟨rfl, x, rfl, copy_src C1.out.1 HBM.out (by simpa using hp)⟩) (by simp [HCL.out]) (ints_one F) w2.heap.size w2 HBM.out (Nat.le_refl _) ?_)
      intro wp hw2 hbp
      have HBP : Hid (Below w2.heap.size w2 wp) := hbp
      clear hbp
      go_wp2_with fail
      go_meet
      go_light
      exact ⟨some ⟨w2.heap.size, 0, none⟩, F.length, rfl, (fill_copied HCL.out hw2.out).row, HBP.out⟩
  obtain ⟨b1, d1, rfl, hrw, hbx⟩ := hcut
  generalize wc = w3 at *
  have G1 : Hid (Row .i64 w3 b1 F) := hrw
  replace G0 : Hid (Src w3 b0 S.length d0 S) := G0.out.below hbx
  replace C2 : Hid (Came .i64 w3 a2 c2 T) := C2.out.below hbx
  replace C3 : Hid (Came .i64 w3 a3 c3 Z) := C3.out.below hbx
  replace HB1 : Hid (Below w'.heap.size w' w3) := HB1.out.trans (hbx.mono hz1)
  replace hz1 : w'.heap.size ≤ w3.heap.size := HB1.out.size
  clear hrw hbx C1
  go_upto_if 82 with fail
  go_cut [2, 15] from 81 to 89 (fun s0 _ wx => ∃ a' c', s0 = .slice a' T.length c' ∧ Row .i64 wx a' T ∧ Below w3.heap.size w3 wx)
  case first =>
    cases a2 with
    | none =>
      obtain ⟨e1, e2⟩ := C2.out.2 rfl
      have E1 : Hid (T = []) := e1
      have E2 : Hid (c2 = 0) := e2
      clear e1 e2
      go_wp2_with fail
      go_meet
      go_light
      exact ⟨none, c2, rfl, .inl E1.out, Below.refl _ _⟩
    | some x =>
      go_wp2_with (at_make; refine wpList_make_full _ rfl _ _ 23 rfl w3.heap.size 3 i3 _ 1 Try.underlying23 hi3 hx0 hx1 _ _ _ _ T.length rfl rfl rfl rfl ?b2 ?b3 (Nat.le_refl _) ?_)
      case b2 => rw [hx2]; omega
      case b3 => unfold maxLen; omega
      intro wm hown hgrow
      have hbm : Below w3.heap.size w3 wm := (Below.refl _ _).grown hgrow (Nat.le_refl _) (fun k h => by cases h)
      obtain ⟨cur, hcur, hcl⟩ : ∃ cur : List Value, wm.heap[w3.heap.size]? = some (.cells cur.toArray 3 (0, 0)) ∧ cur.length = T.length := by
        obtain ⟨cur, g1, g2, _⟩ := Fill.ofMade .i64 T hown rfl
        exact ⟨cur.toList, by simpa using g1, by simpa using g2⟩
      have HM : Hid (wm.heap[w3.heap.size]? = some (.cells cur.toArray 3 (0, 0))) := hcur
      have HBM : Hid (Below w3.heap.size w3 wm) := hbm
      have HCL : Hid (cur.length = T.length) := hcl
      clear hown hgrow hbm hcur hcl
      go_wp2_with (refine wpList_copy_splice rfl _ _ 23 23 rfl 3 Try.underlying23 (by kernel_rfl) _ _ _ _ _ _ rfl rfl w3.heap.size 0 cur 3 HM.out (T.map (Value.int .i64)) (by simp) (fun hp => ⟨rfl, x, rfl, copy_src C2.out.1 HBM.out (by simpa using hp)⟩) (by simp [HCL.out]) (ints_one T) w3.heap.size w3 HBM.out (Nat.le_refl _) ?_)
      intro wp hw2 hbp
      have HBP : Hid (Below w3.heap.size w3 wp) := hbp
      clear hbp
      go_wp2_with fail
      go_meet
      go_light
      exact ⟨some ⟨w3.heap.size, 0, none⟩, T.length, rfl, (fill_copied HCL.out hw2.out).row, HBP.out⟩
  obtain ⟨b2, d2, rfl, hrw, hbx⟩ := hcut
  generalize wc = w4 at *
  have G2 : Hid (Row .i64 w4 b2 T) := hrw
  replace G0 : Hid (Src w4 b0 S.length d0 S) := G0.out.below hbx
  replace G1 : Hid (Row .i64 w4 b1 F) := G1.out.below hbx
  replace C3 : Hid (Came .i64 w4 a3 c3 Z) := C3.out.below hbx
  replace HB1 : Hid (Below w'.heap.size w' w4) := HB1.out.trans (hbx.mono hz1)
  replace hz1 : w'.heap.size ≤ w4.heap.size := HB1.out.size
  clear hrw hbx C2
  go_upto_if 91 with fail
  go_cut [3, 16] from 90 to 98 (fun s0 _ wx => ∃ a' c', s0 = .slice a' Z.length c' ∧ Row .i64 wx a' Z ∧ Below w4.heap.size w4 wx)
  case first =>
    cases a3 with
    | none =>
      obtain ⟨e1, e2⟩ := C3.out.2 rfl
      have E1 : Hid (Z = []) := e1
      have E2 : Hid (c3 = 0) := e2
      clear e1 e2
      go_wp2_with fail
      go_meet
      go_light
      exact ⟨none, c3, rfl, .inl E1.out, Below.refl _ _⟩
    | some x =>
      go_wp2_with (at_make; refine wpList_make_full _ rfl _ _ 23 rfl w4.heap.size 3 i3 _ 1 Try.underlying23 hi3 hx0 hx1 _ _ _ _ Z.length rfl rfl rfl rfl ?b2 ?b3 (Nat.le_refl _) ?_)
      case b2 => rw [hx2]; omega
      case b3 => unfold maxLen; omega
      intro wm hown hgrow
      have hbm : Below w4.heap.size w4 wm := (Below.refl _ _).grown hgrow (Nat.le_refl _) (fun k h => by cases h)
      obtain ⟨cur, hcur, hcl⟩ : ∃ cur : List Value, wm.heap[w4.heap.size]? = some (.cells cur.toArray 3 (0, 0)) ∧ cur.length = Z.length := by
        obtain ⟨cur, g1, g2, _⟩ := Fill.ofMade .i64 Z hown rfl
        exact ⟨cur.toList, by simpa using g1, by simpa using g2⟩
      have HM : Hid (wm.heap[w4.heap.size]? = some (.cells cur.toArray 3 (0, 0))) := hcur
      have HBM : Hid (Below w4.heap.size w4 wm) := hbm
      have HCL : Hid (cur.length = Z.length) := hcl
      clear hown hgrow hbm hcur hcl
      go_wp2_with (refine wpList_copy_splice rfl _ _ 23 23 rfl 3 Try.underlying23 (by kernel_rfl) _ _ _ _ _ _ rfl rfl w4.heap.size 0 cur 3 HM.out (Z.map (Value.int .i64)) (by simp) (fun hp => ⟨rfl, x, rfl, copy_src C3.out.1 HBM.out (by simpa using hp)⟩) (by simp [HCL.out]) (ints_one Z) w4.heap.size w4 HBM.out (Nat.le_refl _) ?_)
      intro wp hw2 hbp
      have HBP : Hid (Below w4.heap.size w4 wp) := hbp
      clear hbp
      go_wp2_with fail
      go_meet
      go_light
      exact ⟨some ⟨w4.heap.size, 0, none⟩, Z.length, rfl, (fill_copied HCL.out hw2.out).row, HBP.out⟩
  obtain ⟨b3, d3, rfl, hrw, hbx⟩ := hcut
  generalize wc = w5 at *
  have G3 : Hid (Row .i64 w5 b3 Z) := hrw
  replace G0 : Hid (Src w5 b0 S.length d0 S) := G0.out.below hbx
  replace G1 : Hid (Row .i64 w5 b1 F) := G1.out.below hbx
  replace G2 : Hid (Row .i64 w5 b2 T) := G2.out.below hbx
  replace HB1 : Hid (Below w'.heap.size w' w5) := HB1.out.trans (hbx.mono hz1)
  replace hz1 : w'.heap.size ≤ w5.heap.size := HB1.out.size
  clear hrw hbx C3

  have HBs : Hid (Below w'.heap.size w' w5) := HB1.out
  go_wp2_with (at_make; refine wpList_make_full _ rfl _ _ 22 rfl w5.heap.size 5 i5 _ 1 Try.underlying22 hi5 hy0 hy1 _ _ _ _ (S.length + s.size) rfl rfl (by omega) (by omega) ?b2 ?b3 (Nat.le_refl _) ?_)
  case b2 => rw [hy2]; omega
  case b3 => unfold maxLen; omega
  intro w6 hown hgrow
  have hb6 : Below w5.heap.size w5 w6 := (Below.refl _ _).grown hgrow (Nat.le_refl _) (fun k h => by cases h)
  have HF6 : Hid (Fill w6 w5.heap.size 5 .u8 (S ++ nums s) 0) := Fill.ofMade .u8 (S ++ nums s) hown (by simp [nums_length])
  have HB6 : Hid (Below w5.heap.size w5 w6) := hb6
  clear hown hgrow hb6
  go_wp2_with fail
  go_loopw [20] (fun i wr => ∃ k : Nat, k ≤ S.length ∧ i = .int .i64 k ∧ Fill wr w5.heap.size 5 .u8 (S ++ nums s) k ∧ Below w5.heap.size w5 wr) (fun i _ => S.length - (intOf i).toNat)
  case atStart => exact ⟨0, Nat.zero_le _, rfl, HF6.out, HB6.out⟩
  case round =>
    clear HF6 HB6
    obtain ⟨k, hk, rfl, hfl, hnx⟩ := hrel
    by_cases hlt : k < S.length
    · have hlt2 : k < S.length + s.size := by omega
      obtain ⟨⟨x, ht⟩, hf⟩ := hfl.there k (by rw [List.length_append, nums_length]; omega)
      have HN : Hid (Fill (wr.setCell ⟨w5.heap.size, k, none⟩ (.int .u8 (S.getD k 0))) w5.heap.size 5 .u8 (S ++ nums s) (k + 1)) := hfl.step (by rw [List.length_append, nums_length]; omega) _ (getD_app_lt _ _ _ hlt).symm
      have HNB : Hid (Below w5.heap.size w5 (wr.setCell ⟨w5.heap.size, k, none⟩ (.int .u8 (S.getD k 0)))) := hnx.setCell (Nat.le_refl _) _
      rcases G0.out with ⟨_, e1, _⟩ | ⟨b, off, rfl, g1, g2, g3, g4, g5⟩
      · rw [e1] at hlt; simp at hlt
      have hsc : wr.cell? ⟨b, off + k, none⟩ = some (.int .u8 (S.getD k 0)) := (hnx.cell g1).trans (g5 k hlt)
      clear g5 g2 g3 g4 hfl hnx
      generalize S.getD k 0 = v at *
      go_wp2_with fail
      go_roundw
      case rel => exact ⟨k + 1, by omega, by go_num, HN.out, HNB.out⟩
      case measure => simp [intOf]; omega
    · obtain rfl : k = S.length := by omega
      have HF7 : Hid (Fill wr w5.heap.size 5 .u8 (S ++ nums s) (S.length + 0)) := hfl
      have HB7 : Hid (Below w5.heap.size w5 wr) := hnx
      clear hfl hnx
      go_wp2_with fail
      go_loopw [21] (fun i wr => ∃ k : Nat, k ≤ s.size ∧ i = .int .i64 k ∧ Fill wr w5.heap.size 5 .u8 (S ++ nums s) (S.length + k) ∧ Below w5.heap.size w5 wr) (fun i _ => s.size - (intOf i).toNat)
      case atStart => exact ⟨0, Nat.zero_le _, rfl, HF7.out, HB7.out⟩
      case round =>
        clear HF7 HB7
        obtain ⟨k, hk2, rfl, hfl, hnx⟩ := hrel
        by_cases hlt2 : k < s.size
        · have hlt3 : S.length + k < S.length + s.size := by omega
          obtain ⟨⟨x, ht⟩, hf⟩ := hfl.there (S.length + k) (by rw [List.length_append, nums_length]; omega)
          have HN : Hid (Fill (wr.setCell ⟨w5.heap.size, S.length + k, none⟩ (.int .u8 (s[k].toNat : Int))) w5.heap.size 5 .u8 (S ++ nums s) (S.length + k + 1)) := hfl.step (by rw [List.length_append, nums_length]; omega) _ (getD_nums S s k hlt2).symm
          have HNB : Hid (Below w5.heap.size w5 (wr.setCell ⟨w5.heap.size, S.length + k, none⟩ (.int .u8 (s[k].toNat : Int)))) := hnx.setCell (Nat.le_refl _) _
          clear hfl hnx
          go_wp2_with fail
          go_roundw
          case rel => exact ⟨k + 1, by omega, by go_num, HN.out, HNB.out⟩
          case measure => simp [intOf]; omega
        · obtain rfl : k = s.size := by omega
          clear hlt hlt2
          have HF8 : Hid (Fill wr w5.heap.size 5 .u8 (S ++ nums s) (S ++ nums s).length) := by
            unfold Hid; rw [List.length_append, nums_length]; exact hfl
          have HB8 : Hid (Below w5.heap.size w5 wr) := hnx
          clear hfl hnx
          generalize wr = w8 at *
          have hT : T.length = F.length := HWL.out.1
          have hZ : Z.length = F.length := HWL.out.2.1
          have HT : Hid (T.length = F.length) := hT
          have HZ : Hid (Z.length = F.length) := hZ
          clear hT hZ
          have og0 : w5.heap.size < w8.heap.size := HF8.out.lt
          have FS : Hid (Fill w8 w5.heap.size 5 .u8 (S ++ nums s) (S ++ nums s).length) := HF8.out
          clear HF8
          go_wp2_with (at_make; refine wpList_make_full _ rfl _ _ 23 rfl w8.heap.size 3 i3 _ 1 Try.underlying23 hi3 hx0 hx1 _ _ _ _ (F.length + 1) rfl rfl (by omega) (by omega) ?b2 ?b3 (Nat.le_refl _) ?_)
          case b2 => rw [hx2]; omega
          case b3 => unfold maxLen; omega
          intro w9 hown hgrow
          have hbm : Below w8.heap.size w8 w9 := (Below.refl _ _).grown hgrow (Nat.le_refl _) (fun k h => by cases h)
          have M1 : Hid (Fill w9 w8.heap.size 3 .i64 ((S.length : Int) :: F) 0) := Fill.ofMade .i64 ((S.length : Int) :: F) hown (by simp [HT.out, HZ.out])
          replace FS : Hid (Fill w9 w5.heap.size 5 .u8 (S ++ nums s) (S ++ nums s).length) := FS.out.below hbm FS.out.lt
          replace HB8 : Hid (Below w5.heap.size w5 w9) := HB8.out.trans (hbm.mono HB8.out.size)
          have og1 : w8.heap.size < w9.heap.size := M1.out.lt
          clear hown hgrow hbm
          generalize w8.heap.size = g1 at *
          go_wp2_with (at_make; refine wpList_make_full _ rfl _ _ 23 rfl w9.heap.size 3 i3 _ 1 Try.underlying23 hi3 hx0 hx1 _ _ _ _ (F.length + 1) rfl rfl (by omega) (by omega) ?b2 ?b3 (Nat.le_refl _) ?_)
          case b2 => rw [hx2]; omega
          case b3 => unfold maxLen; omega
          intro w10 hown hgrow
          have hbm : Below w9.heap.size w9 w10 := (Below.refl _ _).grown hgrow (Nat.le_refl _) (fun k h => by cases h)
          have M2 : Hid (Fill w10 w9.heap.size 3 .i64 (((S.length : Int) + s.size) :: T) 0) := Fill.ofMade .i64 (((S.length : Int) + s.size) :: T) hown (by simp [HT.out, HZ.out])
          replace FS : Hid (Fill w10 w5.heap.size 5 .u8 (S ++ nums s) (S ++ nums s).length) := FS.out.below hbm FS.out.lt
          replace M1 : Hid (Fill w10 g1 3 .i64 ((S.length : Int) :: F) 0) := M1.out.below hbm M1.out.lt
          replace HB8 : Hid (Below w5.heap.size w5 w10) := HB8.out.trans (hbm.mono HB8.out.size)
          have og2 : w9.heap.size < w10.heap.size := M2.out.lt
          clear hown hgrow hbm
          generalize w9.heap.size = g2 at *
          go_wp2_with (at_make; refine wpList_make_full _ rfl _ _ 23 rfl w10.heap.size 3 i3 _ 1 Try.underlying23 hi3 hx0 hx1 _ _ _ _ (F.length + 1) rfl rfl (by omega) (by omega) ?b2 ?b3 (Nat.le_refl _) ?_)
          case b2 => rw [hx2]; omega
          case b3 => unfold maxLen; omega
          intro w11 hown hgrow
          have hbm : Below w10.heap.size w10 w11 := (Below.refl _ _).grown hgrow (Nat.le_refl _) (fun k h => by cases h)
          have M3 : Hid (Fill w11 w10.heap.size 3 .i64 (0 :: Z) 0) := Fill.ofMade .i64 (0 :: Z) hown (by simp [HT.out, HZ.out])
          replace FS : Hid (Fill w11 w5.heap.size 5 .u8 (S ++ nums s) (S ++ nums s).length) := FS.out.below hbm FS.out.lt
          replace M1 : Hid (Fill w11 g1 3 .i64 ((S.length : Int) :: F) 0) := M1.out.below hbm M1.out.lt
          replace M2 : Hid (Fill w11 g2 3 .i64 (((S.length : Int) + s.size) :: T) 0) := M2.out.below hbm M2.out.lt
          replace HB8 : Hid (Below w5.heap.size w5 w11) := HB8.out.trans (hbm.mono HB8.out.size)
          have og3 : w10.heap.size < w11.heap.size := M3.out.lt
          clear hown hgrow hbm
          generalize w10.heap.size = g3 at *
          go_wp2_with (at_make; refine wpList_make_full _ rfl _ _ 23 rfl w11.heap.size 3 i3 _ 1 Try.underlying23 hi3 hx0 hx1 _ _ _ _ (F.length + 1) rfl rfl (by omega) (by omega) ?b2 ?b3 (Nat.le_refl _) ?_)
          case b2 => rw [hx2]; omega
          case b3 => unfold maxLen; omega
          intro w12 hown hgrow
          have hbm : Below w11.heap.size w11 w12 := (Below.refl _ _).grown hgrow (Nat.le_refl _) (fun k h => by cases h)
          have M4 : Hid (Fill w12 w11.heap.size 3 .i64 (F ++ [(S.length : Int)]) 0) := Fill.ofMade .i64 (F ++ [(S.length : Int)]) hown (by simp [HT.out, HZ.out])
          replace FS : Hid (Fill w12 w5.heap.size 5 .u8 (S ++ nums s) (S ++ nums s).length) := FS.out.below hbm FS.out.lt
          replace M1 : Hid (Fill w12 g1 3 .i64 ((S.length : Int) :: F) 0) := M1.out.below hbm M1.out.lt
          replace M2 : Hid (Fill w12 g2 3 .i64 (((S.length : Int) + s.size) :: T) 0) := M2.out.below hbm M2.out.lt
          replace M3 : Hid (Fill w12 g3 3 .i64 (0 :: Z) 0) := M3.out.below hbm M3.out.lt
          replace HB8 : Hid (Below w5.heap.size w5 w12) := HB8.out.trans (hbm.mono HB8.out.size)
          have og4 : w11.heap.size < w12.heap.size := M4.out.lt
          clear hown hgrow hbm
          generalize w11.heap.size = g4 at *
          go_wp2_with (at_make; refine wpList_make_full _ rfl _ _ 23 rfl w12.heap.size 3 i3 _ 1 Try.underlying23 hi3 hx0 hx1 _ _ _ _ (F.length + 1) rfl rfl (by omega) (by omega) ?b2 ?b3 (Nat.le_refl _) ?_)
          case b2 => rw [hx2]; omega
          case b3 => unfold maxLen; omega
          intro w13 hown hgrow
          have hbm : Below w12.heap.size w12 w13 := (Below.refl _ _).grown hgrow (Nat.le_refl _) (fun k h => by cases h)
          have M5 : Hid (Fill w13 w12.heap.size 3 .i64 (T ++ [(S.length : Int) + s.size]) 0) := Fill.ofMade .i64 (T ++ [(S.length : Int) + s.size]) hown (by simp [HT.out, HZ.out])
          replace FS : Hid (Fill w13 w5.heap.size 5 .u8 (S ++ nums s) (S ++ nums s).length) := FS.out.below hbm FS.out.lt
          replace M1 : Hid (Fill w13 g1 3 .i64 ((S.length : Int) :: F) 0) := M1.out.below hbm M1.out.lt
          replace M2 : Hid (Fill w13 g2 3 .i64 (((S.length : Int) + s.size) :: T) 0) := M2.out.below hbm M2.out.lt
          replace M3 : Hid (Fill w13 g3 3 .i64 (0 :: Z) 0) := M3.out.below hbm M3.out.lt
          replace M4 : Hid (Fill w13 g4 3 .i64 (F ++ [(S.length : Int)]) 0) := M4.out.below hbm M4.out.lt
          replace HB8 : Hid (Below w5.heap.size w5 w13) := HB8.out.trans (hbm.mono HB8.out.size)
          have og5 : w12.heap.size < w13.heap.size := M5.out.lt
          clear hown hgrow hbm
          generalize w12.heap.size = g5 at *
          go_wp2_with (at_make; refine wpList_make_full _ rfl _ _ 23 rfl w13.heap.size 3 i3 _ 1 Try.underlying23 hi3 hx0 hx1 _ _ _ _ (F.length + 1) rfl rfl (by omega) (by omega) ?b2 ?b3 (Nat.le_refl _) ?_)
          case b2 => rw [hx2]; omega
          case b3 => unfold maxLen; omega
          intro w14 hown hgrow
          have hbm : Below w13.heap.size w13 w14 := (Below.refl _ _).grown hgrow (Nat.le_refl _) (fun k h => by cases h)
          have M6 : Hid (Fill w14 w13.heap.size 3 .i64 (Z ++ [0]) 0) := Fill.ofMade .i64 (Z ++ [0]) hown (by simp [HT.out, HZ.out])
          replace FS : Hid (Fill w14 w5.heap.size 5 .u8 (S ++ nums s) (S ++ nums s).length) := FS.out.below hbm FS.out.lt
          replace M1 : Hid (Fill w14 g1 3 .i64 ((S.length : Int) :: F) 0) := M1.out.below hbm M1.out.lt
          replace M2 : Hid (Fill w14 g2 3 .i64 (((S.length : Int) + s.size) :: T) 0) := M2.out.below hbm M2.out.lt
          replace M3 : Hid (Fill w14 g3 3 .i64 (0 :: Z) 0) := M3.out.below hbm M3.out.lt
          replace M4 : Hid (Fill w14 g4 3 .i64 (F ++ [(S.length : Int)]) 0) := M4.out.below hbm M4.out.lt
          replace M5 : Hid (Fill w14 g5 3 .i64 (T ++ [(S.length : Int) + s.size]) 0) := M5.out.below hbm M5.out.lt
          replace HB8 : Hid (Below w5.heap.size w5 w14) := HB8.out.trans (hbm.mono HB8.out.size)
          have og6 : w13.heap.size < w14.heap.size := M6.out.lt
          clear hown hgrow hbm
          generalize w13.heap.size = g6 at *
          have BU : Hid (Bun w5 w14 w5.heap.size g1 g2 g3 g4 g5 g6 (S ++ nums s) ((S.length : Int) :: F) (((S.length : Int) + s.size) :: T) (0 :: Z) (F ++ [(S.length : Int)]) (T ++ [(S.length : Int) + s.size]) (Z ++ [0]) 0 0 0 0 0 0) := ⟨HB8.out, Nat.le_refl _, og0, og1, og2, og3, og4, og5, FS.out, M1.out, M2.out, M3.out, M4.out, M5.out, M6.out⟩
          clear HB8 FS M1 M2 M3 M4 M5 M6 og0 og1 og2 og3 og4 og5 og6
          obtain ⟨⟨x1, ht⟩, hf⟩ := BU.out.f1.there 0 (by simp)
          replace BU : Hid (Bun w5 (w14.setCell ⟨g1, 0, none⟩ (.int .i64 (S.length : Int))) w5.heap.size g1 g2 g3 g4 g5 g6 (S ++ nums s) ((S.length : Int) :: F) (((S.length : Int) + s.size) :: T) (0 :: Z) (F ++ [(S.length : Int)]) (T ++ [(S.length : Int) + s.size]) (Z ++ [0]) 1 0 0 0 0 0) := BU.out.set1 (by simp [HT.out, HZ.out]) _ rfl
          go_upto_region 51 with fail
          clear ht hf
          generalize w14.setCell ⟨g1, 0, none⟩ (.int .i64 (S.length : Int)) = w15 at *
          obtain ⟨⟨x2, ht⟩, hf⟩ := BU.out.f2.there 0 (by simp)
          replace BU : Hid (Bun w5 (w15.setCell ⟨g2, 0, none⟩ (.int .i64 ((S.length : Int) + s.size))) w5.heap.size g1 g2 g3 g4 g5 g6 (S ++ nums s) ((S.length : Int) :: F) (((S.length : Int) + s.size) :: T) (0 :: Z) (F ++ [(S.length : Int)]) (T ++ [(S.length : Int) + s.size]) (Z ++ [0]) 1 1 0 0 0 0) := BU.out.set2 (by simp [HT.out, HZ.out]) _ rfl
          go_upto_region 52 with fail
          clear ht hf
          generalize w15.setCell ⟨g2, 0, none⟩ (.int .i64 ((S.length : Int) + s.size)) = w16 at *
          obtain ⟨⟨x3, ht⟩, hf⟩ := BU.out.f3.there 0 (by simp)
          replace BU : Hid (Bun w5 (w16.setCell ⟨g3, 0, none⟩ (.int .i64 0)) w5.heap.size g1 g2 g3 g4 g5 g6 (S ++ nums s) ((S.length : Int) :: F) (((S.length : Int) + s.size) :: T) (0 :: Z) (F ++ [(S.length : Int)]) (T ++ [(S.length : Int) + s.size]) (Z ++ [0]) 1 1 1 0 0 0) := BU.out.set3 (by simp [HT.out, HZ.out]) _ rfl
          go_upto_region 53 with fail
          clear ht hf
          generalize w16.setCell ⟨g3, 0, none⟩ (.int .i64 0) = w17 at *
          go_wp2_with fail
          go_loopw [28] (fun i wr => ∃ k : Nat, k ≤ F.length ∧ i = .int .i64 k ∧ Bun w5 wr w5.heap.size g1 g2 g3 g4 g5 g6 (S ++ nums s) ((S.length : Int) :: F) (((S.length : Int) + s.size) :: T) (0 :: Z) (F ++ [(S.length : Int)]) (T ++ [(S.length : Int) + s.size]) (Z ++ [0]) (k + 1) (k + 1) (k + 1) k k k) (fun i _ => F.length - (intOf i).toNat)
          case atStart => exact ⟨0, Nat.zero_le _, rfl, BU.out⟩
          case round =>
            clear BU
            obtain ⟨k, hk3, rfl, hbu⟩ := hrel
            have BU : Hid (Bun w5 wr w5.heap.size g1 g2 g3 g4 g5 g6 (S ++ nums s) ((S.length : Int) :: F) (((S.length : Int) + s.size) :: T) (0 :: Z) (F ++ [(S.length : Int)]) (T ++ [(S.length : Int) + s.size]) (Z ++ [0]) (k + 1) (k + 1) (k + 1) k k k) := hbu
            clear hbu
            by_cases hlt : k < F.length
            · have hk1 : k + 1 < F.length + 1 := by omega
              have hk0 : k < F.length + 1 := by omega
              obtain ⟨p1, q1, rfl, e1, u1⟩ := G1.out.at_pos (by omega)
              obtain ⟨p2, q2, rfl, e2, u2⟩ := G2.out.at_pos (by rw [HT.out]; omega)
              obtain ⟨p3, q3, rfl, e3, u3⟩ := G3.out.at_pos (by rw [HZ.out]; omega)
              have U1 : Hid (∀ wx : World, Below w5.heap.size w5 wx → wx.cell? ⟨p1, q1 + k, none⟩ = some (.int .i64 (F.getD k 0))) := fun wx hb => (hb.cell e1).trans (u1 k hlt)
              have U2 : Hid (∀ wx : World, Below w5.heap.size w5 wx → wx.cell? ⟨p2, q2 + k, none⟩ = some (.int .i64 (T.getD k 0))) := fun wx hb => (hb.cell e2).trans (u2 k (by rw [HT.out]; omega))
              have U3 : Hid (∀ wx : World, Below w5.heap.size w5 wx → wx.cell? ⟨p3, q3 + k, none⟩ = some (.int .i64 (Z.getD k 0))) := fun wx hb => (hb.cell e3).trans (u3 k (by rw [HZ.out]; omega))
              clear u1 u2 u3
              have hkT : k < T.length := by rw [HT.out]; omega
              have hkZ : k < Z.length := by rw [HZ.out]; omega
              have HKT : Hid (k < T.length) := hkT
              have HKZ : Hid (k < Z.length) := hkZ
              clear hkT hkZ
              have hsc := U1.out wr BU.out.below
              obtain ⟨⟨x1, ht⟩, hf⟩ := BU.out.f1.there (k + 1) (by simp [HT.out, HZ.out]; omega)
              replace BU : Hid (Bun w5 (wr.setCell ⟨g1, (k + 1), none⟩ (.int .i64 (F.getD k 0))) w5.heap.size g1 g2 g3 g4 g5 g6 (S ++ nums s) ((S.length : Int) :: F) (((S.length : Int) + s.size) :: T) (0 :: Z) (F ++ [(S.length : Int)]) (T ++ [(S.length : Int) + s.size]) (Z ++ [0]) ((k + 1) + 1) (k + 1) (k + 1) k k k) := BU.out.set1 (by simp [HT.out, HZ.out]; omega) _ (by simp [List.getD])
              generalize F.getD k 0 = vv1 at hsc BU
              go_upto_region 57 with fail
              clear ht hf hsc
              generalize wr.setCell ⟨g1, (k + 1), none⟩ (.int .i64 vv1) = v1 at *
              have hsc := U2.out v1 BU.out.below
              obtain ⟨⟨x2, ht⟩, hf⟩ := BU.out.f2.there (k + 1) (by simp [HT.out, HZ.out]; omega)
              replace BU : Hid (Bun w5 (v1.setCell ⟨g2, (k + 1), none⟩ (.int .i64 (T.getD k 0))) w5.heap.size g1 g2 g3 g4 g5 g6 (S ++ nums s) ((S.length : Int) :: F) (((S.length : Int) + s.size) :: T) (0 :: Z) (F ++ [(S.length : Int)]) (T ++ [(S.length : Int) + s.size]) (Z ++ [0]) ((k + 1) + 1) ((k + 1) + 1) (k + 1) k k k) := BU.out.set2 (by simp [HT.out, HZ.out]; omega) _ (by simp [List.getD])
              generalize T.getD k 0 = vv2 at hsc BU
              go_upto_region 58 with fail
              clear ht hf hsc
              generalize v1.setCell ⟨g2, (k + 1), none⟩ (.int .i64 vv2) = v2 at *
              have hsc := U3.out v2 BU.out.below
              obtain ⟨⟨x3, ht⟩, hf⟩ := BU.out.f3.there (k + 1) (by simp [HT.out, HZ.out]; omega)
              replace BU : Hid (Bun w5 (v2.setCell ⟨g3, (k + 1), none⟩ (.int .i64 (Z.getD k 0))) w5.heap.size g1 g2 g3 g4 g5 g6 (S ++ nums s) ((S.length : Int) :: F) (((S.length : Int) + s.size) :: T) (0 :: Z) (F ++ [(S.length : Int)]) (T ++ [(S.length : Int) + s.size]) (Z ++ [0]) ((k + 1) + 1) ((k + 1) + 1) ((k + 1) + 1) k k k) := BU.out.set3 (by simp [HT.out, HZ.out]; omega) _ (by simp [List.getD])
              generalize Z.getD k 0 = vv3 at hsc BU
              go_upto_region 59 with fail
              clear ht hf hsc
              generalize v2.setCell ⟨g3, (k + 1), none⟩ (.int .i64 vv3) = v3 at *
              have hsc := U1.out v3 BU.out.below
              obtain ⟨⟨x4, ht⟩, hf⟩ := BU.out.f4.there k (by simp [HT.out, HZ.out]; omega)
              replace BU : Hid (Bun w5 (v3.setCell ⟨g4, k, none⟩ (.int .i64 (F.getD k 0))) w5.heap.size g1 g2 g3 g4 g5 g6 (S ++ nums s) ((S.length : Int) :: F) (((S.length : Int) + s.size) :: T) (0 :: Z) (F ++ [(S.length : Int)]) (T ++ [(S.length : Int) + s.size]) (Z ++ [0]) ((k + 1) + 1) ((k + 1) + 1) ((k + 1) + 1) (k + 1) k k) := BU.out.set4 (by simp [HT.out, HZ.out]; omega) _ (getD_app_lt _ _ _ hlt).symm
              generalize F.getD k 0 = vv4 at hsc BU
              go_upto_region 60 with fail
              clear ht hf hsc
              generalize v3.setCell ⟨g4, k, none⟩ (.int .i64 vv4) = v4 at *
              have hsc := U2.out v4 BU.out.below
              obtain ⟨⟨x5, ht⟩, hf⟩ := BU.out.f5.there k (by simp [HT.out, HZ.out]; omega)
              replace BU : Hid (Bun w5 (v4.setCell ⟨g5, k, none⟩ (.int .i64 (T.getD k 0))) w5.heap.size g1 g2 g3 g4 g5 g6 (S ++ nums s) ((S.length : Int) :: F) (((S.length : Int) + s.size) :: T) (0 :: Z) (F ++ [(S.length : Int)]) (T ++ [(S.length : Int) + s.size]) (Z ++ [0]) ((k + 1) + 1) ((k + 1) + 1) ((k + 1) + 1) (k + 1) (k + 1) k) := BU.out.set5 (by simp [HT.out, HZ.out]; omega) _ (getD_app_lt _ _ _ HKT.out).symm
              generalize T.getD k 0 = vv5 at hsc BU
              go_upto_region 61 with fail
              clear ht hf hsc
              generalize v4.setCell ⟨g5, k, none⟩ (.int .i64 vv5) = v5 at *
              have hsc := U3.out v5 BU.out.below
              obtain ⟨⟨x6, ht⟩, hf⟩ := BU.out.f6.there k (by simp [HT.out, HZ.out]; omega)
              replace BU : Hid (Bun w5 (v5.setCell ⟨g6, k, none⟩ (.int .i64 (Z.getD k 0))) w5.heap.size g1 g2 g3 g4 g5 g6 (S ++ nums s) ((S.length : Int) :: F) (((S.length : Int) + s.size) :: T) (0 :: Z) (F ++ [(S.length : Int)]) (T ++ [(S.length : Int) + s.size]) (Z ++ [0]) ((k + 1) + 1) ((k + 1) + 1) ((k + 1) + 1) (k + 1) (k + 1) (k + 1)) := BU.out.set6 (by simp [HT.out, HZ.out]; omega) _ (getD_app_lt _ _ _ HKZ.out).symm
              generalize Z.getD k 0 = vv6 at hsc BU
              go_upto_region 55 with fail
              clear ht hf hsc
              generalize v5.setCell ⟨g6, k, none⟩ (.int .i64 vv6) = v6 at *
              go_wp2_with fail
              go_roundw
              case rel => exact ⟨k + 1, by omega, by go_num, BU.out⟩
              case measure => simp [intOf]; omega
            · obtain rfl : k = F.length := by omega
              clear hlt hk3
              obtain ⟨⟨x4, ht⟩, hf⟩ := BU.out.f4.there F.length (by simp only [List.length_append, List.length_cons, List.length_nil]; have := HT.out; have := HZ.out; omega)
              replace BU : Hid (Bun w5 (wr.setCell ⟨g4, F.length, none⟩ (.int .i64 (S.length : Int))) w5.heap.size g1 g2 g3 g4 g5 g6 (S ++ nums s) ((S.length : Int) :: F) (((S.length : Int) + s.size) :: T) (0 :: Z) (F ++ [(S.length : Int)]) (T ++ [(S.length : Int) + s.size]) (Z ++ [0]) (F.length + 1) (F.length + 1) (F.length + 1) (F.length + 1) F.length F.length) := BU.out.set4 (by simp only [List.length_append, List.length_cons, List.length_nil]; have := HT.out; have := HZ.out; omega) _ (getD_app_at F _).symm
              go_upto_region 63 with fail
              clear ht hf
              generalize wr.setCell ⟨g4, F.length, none⟩ (.int .i64 (S.length : Int)) = y4 at *
              obtain ⟨⟨x5, ht⟩, hf⟩ := BU.out.f5.there F.length (by simp only [List.length_append, List.length_cons, List.length_nil]; have := HT.out; have := HZ.out; omega)
              replace BU : Hid (Bun w5 (y4.setCell ⟨g5, F.length, none⟩ (.int .i64 ((S.length : Int) + s.size))) w5.heap.size g1 g2 g3 g4 g5 g6 (S ++ nums s) ((S.length : Int) :: F) (((S.length : Int) + s.size) :: T) (0 :: Z) (F ++ [(S.length : Int)]) (T ++ [(S.length : Int) + s.size]) (Z ++ [0]) (F.length + 1) (F.length + 1) (F.length + 1) (F.length + 1) (F.length + 1) F.length) := BU.out.set5 (by simp only [List.length_append, List.length_cons, List.length_nil]; have := HT.out; have := HZ.out; omega) _ (by rw [← HT.out]; exact (getD_app_at T _).symm)
              go_upto_region 64 with fail
              clear ht hf
              generalize y4.setCell ⟨g5, F.length, none⟩ (.int .i64 ((S.length : Int) + s.size)) = y5 at *
              obtain ⟨⟨x6, ht⟩, hf⟩ := BU.out.f6.there F.length (by simp only [List.length_append, List.length_cons, List.length_nil]; have := HT.out; have := HZ.out; omega)
              replace BU : Hid (Bun w5 (y5.setCell ⟨g6, F.length, none⟩ (.int .i64 0)) w5.heap.size g1 g2 g3 g4 g5 g6 (S ++ nums s) ((S.length : Int) :: F) (((S.length : Int) + s.size) :: T) (0 :: Z) (F ++ [(S.length : Int)]) (T ++ [(S.length : Int) + s.size]) (Z ++ [0]) (F.length + 1) (F.length + 1) (F.length + 1) (F.length + 1) (F.length + 1) (F.length + 1)) := BU.out.set6 (by simp only [List.length_append, List.length_cons, List.length_nil]; have := HT.out; have := HZ.out; omega) _ (by rw [← HZ.out]; exact (getD_app_at Z _).symm)
              go_upto_region 65 with fail
              clear ht hf
              generalize y5.setCell ⟨g6, F.length, none⟩ (.int .i64 0) = y6 at *
              go_wp2_with fail
              rw [HT.out, HZ.out]
              refine (given7n b0 b1 b2 b3 S.length d0 d1 d2 d3 F.length S F T Z p _ rfl (by omega) (G0.out.below BU.out.below) (G1.out.below BU.out.below) (G2.out.below BU.out.below) (G3.out.below BU.out.below) HWL.out).mono ?_
              rintro e z1 ⟨rfl, hb⟩
              replace BU : Hid (Bun w5 z1 w5.heap.size g1 g2 g3 g4 g5 g6 (S ++ nums s) ((S.length : Int) :: F) (((S.length : Int) + s.size) :: T) (0 :: Z) (F ++ [(S.length : Int)]) (T ++ [(S.length : Int) + s.size]) (Z ++ [0]) (F.length + 1) (F.length + 1) (F.length + 1) (F.length + 1) (F.length + 1) (F.length + 1)) := BU.out.later hb
              clear hb
              have L1 : Hid (givenB (S ++ nums s) ((S.length : Int) :: F) (((S.length : Int) + s.size) :: T) (0 :: Z) s = true) := by unfold Hid; rw [front_law S F T Z s s HWL.out, eqs_self]; simp
              have L2 : Hid (givenB (S ++ nums s) (F ++ [(S.length : Int)]) (T ++ [(S.length : Int) + s.size]) (Z ++ [0]) s = true) := by unfold Hid; rw [back_law S F T Z s s HWL.out, eqs_self]; simp
              have L3 : Hid (givenB (S ++ nums s) ((S.length : Int) :: F) (((S.length : Int) + s.size) :: T) (0 :: Z) p = ((p.toList == s.toList) || givenB S F T Z p)) := by unfold Hid; rw [front_law S F T Z s p HWL.out, eqs_comm]; rfl
              have L4 : Hid (givenB (S ++ nums s) (F ++ [(S.length : Int)]) (T ++ [(S.length : Int) + s.size]) (Z ++ [0]) p = (givenB S F T Z p || (p.toList == s.toList))) := by unfold Hid; rw [back_law S F T Z s p HWL.out, eqs_comm]; rfl
              generalize givenB S F T Z p = bf at *
              generalize hc : (p.toList == s.toList) = cc at *
              cases cc <;> cases bf
              all_goals
                go_wp2_with fail
                refine (given7n _ _ _ _ (S.length + s.size) _ _ _ _ (F.length + 1) (S ++ nums s) ((S.length : Int) :: F) (((S.length : Int) + s.size) :: T) (0 :: Z) s _ (by simp) (by omega) (src_of BU.out.fs h0 h4) (BU.out.f1.rowk (by have h1 := HT.out; have h2 := HZ.out; simp [h1, h2])) (BU.out.f2.rowk (by have h1 := HT.out; have h2 := HZ.out; simp [h1, h2])) (BU.out.f3.rowk (by have h1 := HT.out; have h2 := HZ.out; simp [h1, h2])) (front_well S F T Z s HWL.out)).mono ?_
                rintro e z2 ⟨rfl, hb⟩
                replace BU : Hid (Bun w5 z2 w5.heap.size g1 g2 g3 g4 g5 g6 (S ++ nums s) ((S.length : Int) :: F) (((S.length : Int) + s.size) :: T) (0 :: Z) (F ++ [(S.length : Int)]) (T ++ [(S.length : Int) + s.size]) (Z ++ [0]) (F.length + 1) (F.length + 1) (F.length + 1) (F.length + 1) (F.length + 1) (F.length + 1)) := BU.out.later hb
                clear hb
                rw [L1.out]
                go_wp2_with fail
                refine (given7n _ _ _ _ (S.length + s.size) _ _ _ _ (F.length + 1) (S ++ nums s) (F ++ [(S.length : Int)]) (T ++ [(S.length : Int) + s.size]) (Z ++ [0]) s _ (by simp) (by omega) (src_of BU.out.fs h0 h4) (BU.out.f4.rowk (by have h1 := HT.out; have h2 := HZ.out; simp [h1, h2])) (BU.out.f5.rowk (by have h1 := HT.out; have h2 := HZ.out; simp [h1, h2])) (BU.out.f6.rowk (by have h1 := HT.out; have h2 := HZ.out; simp [h1, h2])) (back_well S F T Z s HWL.out)).mono ?_
                rintro e z3 ⟨rfl, hb⟩
                replace BU : Hid (Bun w5 z3 w5.heap.size g1 g2 g3 g4 g5 g6 (S ++ nums s) ((S.length : Int) :: F) (((S.length : Int) + s.size) :: T) (0 :: Z) (F ++ [(S.length : Int)]) (T ++ [(S.length : Int) + s.size]) (Z ++ [0]) (F.length + 1) (F.length + 1) (F.length + 1) (F.length + 1) (F.length + 1) (F.length + 1)) := BU.out.later hb
                clear hb
                rw [L2.out]
                go_wp2_with fail
                refine (given7n _ _ _ _ (S.length + s.size) _ _ _ _ (F.length + 1) (S ++ nums s) ((S.length : Int) :: F) (((S.length : Int) + s.size) :: T) (0 :: Z) p _ (by simp) (by omega) (src_of BU.out.fs h0 h4) (BU.out.f1.rowk (by have h1 := HT.out; have h2 := HZ.out; simp [h1, h2])) (BU.out.f2.rowk (by have h1 := HT.out; have h2 := HZ.out; simp [h1, h2])) (BU.out.f3.rowk (by have h1 := HT.out; have h2 := HZ.out; simp [h1, h2])) (front_well S F T Z s HWL.out)).mono ?_
                rintro e z4 ⟨rfl, hb⟩
                replace BU : Hid (Bun w5 z4 w5.heap.size g1 g2 g3 g4 g5 g6 (S ++ nums s) ((S.length : Int) :: F) (((S.length : Int) + s.size) :: T) (0 :: Z) (F ++ [(S.length : Int)]) (T ++ [(S.length : Int) + s.size]) (Z ++ [0]) (F.length + 1) (F.length + 1) (F.length + 1) (F.length + 1) (F.length + 1) (F.length + 1)) := BU.out.later hb
                clear hb
                rw [L3.out]
                go_wp2_with fail
                refine (given7n _ _ _ _ (S.length + s.size) _ _ _ _ (F.length + 1) (S ++ nums s) (F ++ [(S.length : Int)]) (T ++ [(S.length : Int) + s.size]) (Z ++ [0]) p _ (by simp) (by omega) (src_of BU.out.fs h0 h4) (BU.out.f4.rowk (by have h1 := HT.out; have h2 := HZ.out; simp [h1, h2])) (BU.out.f5.rowk (by have h1 := HT.out; have h2 := HZ.out; simp [h1, h2])) (BU.out.f6.rowk (by have h1 := HT.out; have h2 := HZ.out; simp [h1, h2])) (back_well S F T Z s HWL.out)).mono ?_
                rintro e z5 ⟨rfl, hb⟩
                replace BU : Hid (Bun w5 z5 w5.heap.size g1 g2 g3 g4 g5 g6 (S ++ nums s) ((S.length : Int) :: F) (((S.length : Int) + s.size) :: T) (0 :: Z) (F ++ [(S.length : Int)]) (T ++ [(S.length : Int) + s.size]) (Z ++ [0]) (F.length + 1) (F.length + 1) (F.length + 1) (F.length + 1) (F.length + 1) (F.length + 1)) := BU.out.later hb
                clear hb
                rw [L4.out]
                go_wp2_with fail
                go_ret
                exact ⟨rfl, HBs.out.trans (BU.out.below.mono HBs.out.size)⟩

theorem came_of {k : IntKind} {w : World} {a : Option Addr} {len cap : Nat} {zs : List Int} (h : IsRow k w a len cap zs) : (zs.take len).length = len ∧ len ≤ maxLen ∧ Came k w a cap (zs.take len) := by
  rcases h with ⟨rfl, rfl, rfl, rfl⟩ | ⟨⟨b, off, spot⟩, rfl, hl, hm, hz, hcell, hwz⟩
  · exact ⟨rfl, Nat.zero_le _, .inl rfl, fun _ => ⟨rfl, rfl⟩⟩
  · have hlen : (zs.take len).length = len := by rw [List.length_take]; omega
    refine ⟨hlen, by omega, ?_, fun h => by cases h⟩
    by_cases h0 : len = 0
    · subst h0; exact .inl (by simp)
    · have hspot : spot = none := by simpa [Addr.add] using World.cell?_spot (hcell 0 (by omega))
      subst hspot
      refine .inr ⟨b, off, rfl, block_lt_of_cell (hcell 0 (by omega)), fun j hj => ?_⟩
      have h1 := hcell j (by omega)
      rw [add_plain] at h1
      rw [h1]
      simp [List.getD, show j < len from by omega]

theorem walk (a0 : Option Addr) (len0 cap0 : Nat) (z0 : List Int) (a1 : Option Addr) (len1 cap1 : Nat) (z1 : List Int) (a2 : Option Addr) (len2 cap2 : Nat) (z2 : List Int) (a3 : Option Addr) (len3 cap3 : Nat) (z3 : List Int) (a4 : ByteArray) (a5 : ByteArray) (w : World) (w0 : IsRow .u8 w a0 len0 cap0 z0) (w1 : IsRow .i64 w a1 len1 cap1 z1) (w2 : IsRow .i64 w a2 len2 cap2 z2) (w3 : IsRow .i64 w a3 len3 cap3 z3) (w4 : a4.size ≤ maxLen) (w5 : a5.size ≤ maxLen) :
    Calls Try.prog 3 #[.slice a0 len0 cap0, .slice a1 len1 cap1, .slice a2 len2 cap2, .slice a3 len3 cap3, .string a4, .string a5] w fun e w' => e = .returned (.bool true) ∧ Below w.heap.size w w' := by
  obtain ⟨e0, m0, r0⟩ := came_of w0
  obtain ⟨e1, m1, r1⟩ := came_of w1
  obtain ⟨e2, m2, r2⟩ := came_of w2
  obtain ⟨e3, m3, r3⟩ := came_of w3
  by_cases hoff : 262144 < len0 ∨ 16384 < len1 ∨ 16384 < len2 ∨ 16384 < len3 ∨ 65536 < a4.size ∨ 65536 < a5.size
  · exact walkOff a0 a1 a2 a3 len0 len1 len2 len3 cap0 cap1 cap2 cap3 a4 a5 w m0 m1 m2 m3 w4 w5 hoff
  · have h := walkOn a0 a1 a2 a3 cap0 cap1 cap2 cap3 _ _ _ _ a4 a5 w r0 r1 r2 r3 (by omega) (by omega) (by omega) (by omega) (by omega) (by omega)
    rw [e0, e1, e2, e3] at h
    exact h

/-! ### THE ROW's STEP: WRITTEN OUT: LEAVE IT -/
set_option maxRecDepth 100000 in
theorem lifted (os : Os) (started : os.Started) (H : Type) (enc : TypeId × Value → H) :
    ReturnsInHanded {} Try.checked os 3 .any (Rows.fnGivenFieldPutInAtEitherEndSpec.pre6 enc Try.prog Try.f3 Rows.fnGivenFieldPutInAtEitherEndRow.domain false) (Rows.fnGivenFieldPutInAtEitherEndSpec.post enc Try.prog Try.f3 false true false false) := by
  refine returnsInHanded_of_change (C := Try.checked) own started (by kernel_rfl) Try.func3
    (ChangeSpec.witness6 (enc := enc) (C := Try.checked) false ⟨#[], #[.slice none 0 0, .slice none 0 0, .slice none 0 0, .slice none 0 0, .string ByteArray.empty, .string ByteArray.empty], []⟩ 8 (by kernel_rfl) (by kernel_rfl) (by kernel_rfl) (by kernel_rfl)) ?_
  intro W base args ds gs before hval0 hW hcnd _
  have hval : ∀ (j : Nat) t v, Try.f3.params[j]? = some t → args[j]? = some v → Value.okWide Try.prog W .any base t v := hval0
  have hW' := hW
  obtain ⟨p, q, hA0, hV, rfl, hfz, hnd⟩ := hW
  have hA : DataW.TrodAll enc Try.prog W 0 (fun _ => true) true Try.f3.params.toList args.toList ds p := hA0
  rw [Try.params3] at hA hval
  obtain ⟨v0, vs0, d0, ds0, p0, q0, hargs, rfl, rfl, h0, r0⟩ := trodAll_cons hA
  obtain ⟨v1, vs1, d1, ds1, p1, q1, rfl, rfl, rfl, h1, r1⟩ := trodAll_cons r0
  obtain ⟨v2, vs2, d2, ds2, p2, q2, rfl, rfl, rfl, h2, r2⟩ := trodAll_cons r1
  obtain ⟨v3, vs3, d3, ds3, p3, q3, rfl, rfl, rfl, h3, r3⟩ := trodAll_cons r2
  obtain ⟨v4, vs4, d4, ds4, p4, q4, rfl, rfl, rfl, h4, r4⟩ := trodAll_cons r3
  obtain ⟨v5, vs5, d5, ds5, p5, q5, rfl, rfl, rfl, h5, r5⟩ := trodAll_cons r4
  obtain ⟨rfl, rfl, rfl⟩ := trodAll_nil r5
  obtain rfl : args = #[v0, v1, v2, v3, v4, v5] := by cases args; simp_all
  obtain ⟨rfl, rfl⟩ := trodVars_none hV
  obtain ⟨a0, len0, cap0, rfl⟩ := okWide_slice Try.underlying22 (hval 0 22 v0 rfl rfl)
  have k0 := h0
  have lt0 : ∀ x ∈ p0, x.block < W.heap.size := by obtain ⟨m, hm⟩ := k0; exact DataW.trod_lt m _ _ _ hm
  obtain ⟨z0, w0⟩ : ∃ zs, IsRow .u8 W a0 len0 cap0 zs := by
    obtain ⟨fuel, hf⟩ := h0
    rcases open_ints Try.underlying22 Try.underlying5 (by kernel_rfl) hf with ⟨hcs, _⟩ | ⟨x, l, c, zs, hcs, _, hl, hm, hz, _, hcell, hwz⟩
    · simp [Value.cells] at hcs
      obtain ⟨rfl, rfl, rfl⟩ := hcs
      exact ⟨[], .inl ⟨rfl, rfl, rfl, rfl⟩⟩
    · simp [Value.cells] at hcs
      obtain ⟨rfl, rfl, rfl⟩ := hcs
      exact ⟨zs, .inr ⟨_, rfl, hl, hm, by simpa using hz, hcell, hwz⟩⟩
  obtain ⟨a1, len1, cap1, rfl⟩ := okWide_slice Try.underlying23 (hval 1 23 v1 rfl rfl)
  have k1 := h1
  have lt1 : ∀ x ∈ p1, x.block < W.heap.size := by obtain ⟨m, hm⟩ := k1; exact DataW.trod_lt m _ _ _ hm
  obtain ⟨z1, w1⟩ : ∃ zs, IsRow .i64 W a1 len1 cap1 zs := by
    obtain ⟨fuel, hf⟩ := h1
    rcases open_ints Try.underlying23 Try.underlying3 (by kernel_rfl) hf with ⟨hcs, _⟩ | ⟨x, l, c, zs, hcs, _, hl, hm, hz, _, hcell, hwz⟩
    · simp [Value.cells] at hcs
      obtain ⟨rfl, rfl, rfl⟩ := hcs
      exact ⟨[], .inl ⟨rfl, rfl, rfl, rfl⟩⟩
    · simp [Value.cells] at hcs
      obtain ⟨rfl, rfl, rfl⟩ := hcs
      exact ⟨zs, .inr ⟨_, rfl, hl, hm, by simpa using hz, hcell, hwz⟩⟩
  obtain ⟨a2, len2, cap2, rfl⟩ := okWide_slice Try.underlying23 (hval 2 23 v2 rfl rfl)
  have k2 := h2
  have lt2 : ∀ x ∈ p2, x.block < W.heap.size := by obtain ⟨m, hm⟩ := k2; exact DataW.trod_lt m _ _ _ hm
  obtain ⟨z2, w2⟩ : ∃ zs, IsRow .i64 W a2 len2 cap2 zs := by
    obtain ⟨fuel, hf⟩ := h2
    rcases open_ints Try.underlying23 Try.underlying3 (by kernel_rfl) hf with ⟨hcs, _⟩ | ⟨x, l, c, zs, hcs, _, hl, hm, hz, _, hcell, hwz⟩
    · simp [Value.cells] at hcs
      obtain ⟨rfl, rfl, rfl⟩ := hcs
      exact ⟨[], .inl ⟨rfl, rfl, rfl, rfl⟩⟩
    · simp [Value.cells] at hcs
      obtain ⟨rfl, rfl, rfl⟩ := hcs
      exact ⟨zs, .inr ⟨_, rfl, hl, hm, by simpa using hz, hcell, hwz⟩⟩
  obtain ⟨a3, len3, cap3, rfl⟩ := okWide_slice Try.underlying23 (hval 3 23 v3 rfl rfl)
  have k3 := h3
  have lt3 : ∀ x ∈ p3, x.block < W.heap.size := by obtain ⟨m, hm⟩ := k3; exact DataW.trod_lt m _ _ _ hm
  obtain ⟨z3, w3⟩ : ∃ zs, IsRow .i64 W a3 len3 cap3 zs := by
    obtain ⟨fuel, hf⟩ := h3
    rcases open_ints Try.underlying23 Try.underlying3 (by kernel_rfl) hf with ⟨hcs, _⟩ | ⟨x, l, c, zs, hcs, _, hl, hm, hz, _, hcell, hwz⟩
    · simp [Value.cells] at hcs
      obtain ⟨rfl, rfl, rfl⟩ := hcs
      exact ⟨[], .inl ⟨rfl, rfl, rfl, rfl⟩⟩
    · simp [Value.cells] at hcs
      obtain ⟨rfl, rfl, rfl⟩ := hcs
      exact ⟨zs, .inr ⟨_, rfl, hl, hm, by simpa using hz, hcell, hwz⟩⟩
  obtain ⟨a4, rfl, rfl, rfl, w4⟩ := open_string Try.underlying9 (hval 4 9 v4 rfl rfl) h4
  obtain ⟨a5, rfl, rfl, rfl, w5⟩ := open_string Try.underlying9 (hval 5 9 v5 rfl rfl) h5
  clear hA0 hval0
  refine (walk a0 len0 cap0 z0 a1 len1 cap1 z1 a2 len2 cap2 z2 a3 len3 cap3 z3 a4 a5 W w0 w1 w2 w3 w4 w5).mono fun e W' ⟨he, bel⟩ => ?_
  subst he
  exact ⟨_, rfl, _, _, _, [], _, [], hW', trodAll_mk1 (shut_bool Try.underlying4 _), (trodAll_cons_mk (Below.trod laidOut (by kernel_rfl) (of_decide_eq_true (by kernel_rfl)) k0 bel lt0) (trodAll_cons_mk (Below.trod laidOut (by kernel_rfl) (of_decide_eq_true (by kernel_rfl)) k1 bel lt1) (trodAll_cons_mk (Below.trod laidOut (by kernel_rfl) (of_decide_eq_true (by kernel_rfl)) k2 bel lt2) (trodAll_cons_mk (Below.trod laidOut (by kernel_rfl) (of_decide_eq_true (by kernel_rfl)) k3 bel lt3) (trodAll_cons_mk (shut_string Try.underlying9 w4) (trodAll_cons_mk (shut_string Try.underlying9 w5) trodAll_mk0)))))), rfl, bel.frame _, fun h => by cases h⟩

theorem over : Rows.fnGivenFieldPutInAtEitherEndRow.holds Try.pinned (OpenSpec.ofChange Rows.fnGivenFieldPutInAtEitherEndSpec) :=
  OpenClaim.holds_of_wide 3 Try.f3 rfl rfl rfl rfl rfl rfl rfl ⟨rfl, rfl, rfl, rfl, rfl⟩ rfl rfl rfl rfl rfl (by kernel_rfl) Try.func3 (by kernel_rfl)
    (of_decide_eq_true (by kernel_rfl)) (by unfold Func.isWrapper; first | (rw [if_pos (by decide +kernel)]; kernel_rfl) | (rw [if_neg (by decide +kernel)]; exact ⟨rfl, rfl⟩))
    (fun os started H enc _ => lifted os started H enc)

/-- ████ THE STATEMENT ████ -/
theorem proved : Rows.FnGivenFieldPutInAtEitherEndSaid := over
#print axioms proved
end Go.Proofs.Qxb6625799a.fnGivenFieldPutInAtEitherEnd
