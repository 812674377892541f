/-
  'Rows.FnNamesJoinAtAnyCutSaid': the walk out of the callees' contracts; the frame after the kit's shell for slices of integers, turned to a slice of strings.
-/
import Derived.Test.Qxb6630621aRows
import Derived.Test.Qxb6630621aList
import Derived.WalkKit
import Derived.ProofKit
import Derived.OpenShut
import Derived.ShutString
import Derived.ChangeOld
import Derived.Below
import Derived.SliceStrings
import Derived.Deep.Cut
import Derived.Deep.CutRange
import Derived.Deep.RegionWith
import Derived.Deep.Light
namespace Go.Proofs.Qxb6630621a.fnNamesJoinAtAnyCut
open Go.ChangeShapes Go.WideShapes Go.ChangeAt Go.RowKit
open Go.ChangeMaps (open_string shut_string)
set_option linter.unusedVariables false

theorem own : ownKnob Try.prog.godebug = none := by kernel_rfl
theorem laidOut : laidOutB Try.prog = true := by kernel_rfl

set_option maxHeartbeats 1000000 in
theorem walkEmpty (a : Option Addr) (c : Nat) (kk : Int) (w : World) :
    Calls Try.prog 3 #[.slice a 0 c, .int .i64 kk] w fun e w' => e = .returned (.bool true) ∧ Below w.heap.size w w' := by
  by_cases hk : kk < 0 ∨ 0 < kk
  · by_cases hk1 : kk < 0
    · go_enter Try.func3, Try.ntmps3
      go_wp2_with fail
      refine (bytes5_none a c kk _).mono ?_
      rintro e w1 ⟨⟨r, rfl⟩, rfl⟩
      cases r
      · go_wp2_with fail
        go_ret
        exact ⟨rfl, Below.refl _ _⟩
      · go_wp2_with fail
        refine (size6_none a c _).mono ?_
        rintro e w2 ⟨rfl, rfl⟩
        go_wp2_with fail
        go_ret
        exact ⟨rfl, Below.refl _ _⟩
    · have hk2 : 0 < kk := by omega
      clear hk
      go_enter Try.func3, Try.ntmps3
      go_wp2_with fail
      refine (bytes5_none a c kk _).mono ?_
      rintro e w1 ⟨⟨r, rfl⟩, rfl⟩
      cases r
      · go_wp2_with fail
        go_ret
        exact ⟨rfl, Below.refl _ _⟩
      · go_wp2_with fail
        refine (size6_none a c _).mono ?_
        rintro e w2 ⟨rfl, rfl⟩
        go_wp2_with fail
        go_ret
        exact ⟨rfl, Below.refl _ _⟩
  · obtain rfl : kk = 0 := by omega
    go_enter Try.func3, Try.ntmps3
    go_wp2_with fail
    refine (bytes5_none a c 0 _).mono ?_
    rintro e w1 ⟨⟨r, rfl⟩, rfl⟩
    cases r
    · go_wp2_with fail
      go_ret
      exact ⟨rfl, Below.refl _ _⟩
    · go_wp2_with fail
      refine (size6_none a c _).mono ?_
      rintro e w2 ⟨rfl, rfl⟩
      go_wp2_with fail
      refine (distinct7_none a c _).mono ?_
      rintro e w2 ⟨rfl, rfl⟩
      go_wp2_with fail
      refine (table9_none a c _).mono ?_
      rintro e w3 ⟨t, rfl, hb3, htab⟩
      have HT : Hid (TabOK w3 w2.heap.size t []) := htab
      have HB : Hid (Below w2.heap.size w2 w3) := hb3
      clear htab hb3
      go_wp2_with fail
      refine (names8 w2.heap.size t [] _ HT.out (by simp) (by simp [sumSz])).mono ?_
      rintro e w4 ⟨rfl, hb4⟩
      have hbb : Below w2.heap.size w2 w4 := HB.out.trans hb4
      have HB4 : Hid (Below w2.heap.size w2 w4) := hbb
      clear hbb hb4
      have hnt : (nt []).toList = [110, 111, 110, 101] := by decide +kernel
      go_wp2_with fail
      go_ret
      exact ⟨rfl, HB4.out⟩

theorem strs_below {w w' : World} {b off B : Nat} {xs : List ByteArray} (h : Strs w b off xs) (hb : Below B w w') (hB : b < B) : Strs w' b off xs :=
  fun j hj => (hb.cell (p := ⟨b, off + j, none⟩) hB).trans (h j hj)
theorem strs_drew {w : World} {b off : Nat} {xs : List ByteArray} (h : Strs w b off xs) (q : Nat) : Strs (w.drewN q) b off xs := h
theorem below_drewN {B : Nat} {w w' : World} (h : Below B w w') (q : Nat) : Below B w (w'.drewN q) := ⟨h.os, h.tape, h.output, h.size, h.block⟩

theorem first_one (xs : List ByteArray) (h : 0 < xs.length) : nt (List.take 1 xs) = xs[0] := by
  cases xs with
  | nil => simp at h
  | cons a r => exact nt_one a

set_option maxRecDepth 100000 in
set_option maxHeartbeats 2000000 in
theorem walkMain (b off c : Nat) (xs : List ByteArray) (k : Nat) (w : World) (hc : Strs w b off xs) (hs : Short xs) (hb : b < w.heap.size) (hn : xs.length ≤ maxLen) (h0 : 0 < xs.length) (hk : k ≤ xs.length) :
    Calls Try.prog 3 #[.slice (some ⟨b, off, none⟩) xs.length c, .int .i64 k] w fun e w' => e = .returned (.bool true) ∧ Below w.heap.size w w' := by
  have HC : Hid (Strs w b off xs) := hc
  have HS : Hid (Short xs) := hs
  have HM : Hid (xs.length ≤ maxLen) := hn
  unfold maxLen at hn
  clear hc hs
  go_enter Try.func3, Try.ntmps3
  go_wp2_with fail
  refine (bytes5 b off c xs k _ HC.out HS.out HM.out).mono ?_
  rintro e w1 ⟨⟨r, rfl, hr⟩, rfl⟩
  cases r
  · go_wp2_with fail
    go_ret
    exact ⟨rfl, Below.refl _ _⟩
  have hr' := hr rfl
  clear hr
  have hsum : sumSz xs ≤ 1048576 := by omega
  go_wp2_with fail
  refine (size6 b off c xs _ HC.out hsum HM.out).mono ?_
  rintro e w2 ⟨⟨r, rfl, hr⟩, rfl⟩
  cases r
  · go_wp2_with fail
    go_ret
    exact ⟨rfl, Below.refl _ _⟩
  have h4 : xs.length ≤ 4096 := (hr rfl).1
  clear hr hr'
  go_wp2_with fail
  refine (distinct7 b off c xs _ HC.out h4).mono ?_
  rintro e w3 ⟨⟨r, rfl⟩, q, hq⟩
  have hb3 : Below w2.heap.size w2 w3 := by rw [hq]; exact below_drewN (Below.refl _ _) q
  have HB3 : Hid (Below w2.heap.size w2 w3) := hb3
  clear hq
  cases r
  · go_wp2_with fail
    go_ret
    exact ⟨rfl, HB3.out⟩
  have HC3 : Hid (Strs w3 b off xs) := strs_below HC.out hb3 hb
  have hz3 := hb3.size
  clear hb3
  go_wp2_with fail
  refine (table9_ok b off c xs 0 xs.length (by omega) _ HC3.out (by omega) h4 _ _ rfl (by simp)).mono ?_
  rintro e w4 ⟨t4, rfl, hb4, htab4⟩
  have HB4 : Hid (Below w3.heap.size w3 w4) := hb4
  have HT4 : Hid (TabOK w4 w3.heap.size t4 ((xs.drop 0).take xs.length)) := htab4
  clear hb4 htab4
  go_wp2_with fail
  refine (names8 _ t4 _ _ HT4.out (by simp; omega) (Nat.le_trans (sumSz_part _ _ _) hsum)).mono ?_
  rintro e w5 ⟨rfl, hb5⟩
  have hbel5 : Below w2.heap.size w2 w5 := HB3.out.trans ((HB4.out.trans hb5).mono hz3)
  rw [show (xs.drop 0).take xs.length = xs from by simp]
  have HC5 : Hid (Strs w5 b off xs) := strs_below HC.out hbel5 hb
  have hz5 := hbel5.size
  have HB5 : Hid (Below w2.heap.size w2 w5) := hbel5
  clear hb5 HB4 HT4 HB3 HC3 hbel5
  have hne : ((xs.length : Int) == 0) = false := beq_eq_false_iff_ne.2 (by omega)
  go_upto_region 13 with fail
  go_cut [42] from 36 to 42 (fun s42 wx => s42 = .bool false ∧ Below w2.heap.size w2 wx)
  case first =>
    have c5 : w5.cell? ⟨b, off, none⟩ = some (.string (xs.getD 0 ByteArray.empty)) := HC5.out 0 h0
    have HC5d : Hid (Strs w5.drew b off xs) := HC5.out
    have hl0 : (0 : Int) < (xs.length : Int) := by omega
    go_region_with (first | (go_at_call 9; refine (table9_ok b off c xs 0 1 (by omega) w5.drew HC5d.out (by show b < w5.heap.size; omega) h4 _ _ rfl (by simp)).mono ?_; rintro e w6 ⟨t6, rfl, hb6, htab6⟩; have c6 : w6.cell? ⟨b, off, none⟩ = some (.string (xs.getD 0 ByteArray.empty)) := (hb6.cell (by show b < w5.heap.size; omega)).trans c5) | (go_at_call 8; refine (names8 _ t6 _ _ htab6 (by simp; omega) (Nat.le_trans (sumSz_part _ _ _) hsum)).mono ?_; rintro e w7 ⟨rfl, hb7⟩; have c7 : w7.cell? ⟨b, off, none⟩ = some (.string (xs.getD 0 ByteArray.empty)) := (hb7.cell (by show b < w5.heap.size; omega)).trans c6))
    all_goals (go_wp2_with fail; go_meet; go_light)
    all_goals exact ⟨by rw [first_one xs h0]; simp, HB5.out.drew.trans ((hb6.trans hb7).mono hz5)⟩
  obtain ⟨rfl, hbc⟩ := hcut
  have HBc : Hid (Below w2.heap.size w2 wc) := hbc
  have HCc : Hid (Strs wc b off xs) := strs_below HC.out hbc hb
  have hzc := hbc.size
  clear hbc HB5 HC5
  go_wp2_with fail
  refine (table9_ok b off c xs 0 k (by omega) _ HCc.out (by omega) h4 _ _ rfl (by simp)).mono ?_
  rintro e w8 ⟨t8, rfl, hb8, htab8⟩
  have HB8 : Hid (Below wc.heap.size wc w8) := hb8
  have HT8 : Hid (TabOK w8 wc.heap.size t8 ((xs.drop 0).take k)) := htab8
  clear hb8 htab8
  go_wp2_with fail
  refine (names8 _ t8 _ _ HT8.out (by simp; omega) (Nat.le_trans (sumSz_part _ _ _) hsum)).mono ?_
  rintro e w9 ⟨rfl, hb9⟩
  have hbel9 : Below w2.heap.size w2 w9 := HBc.out.trans ((HB8.out.trans hb9).mono hzc)
  rw [show (xs.drop 0).take k = xs.take k from by simp]
  have HC9 : Hid (Strs w9 b off xs) := strs_below HC.out hbel9 hb
  have hz9 := hbel9.size
  have HB9 : Hid (Below w2.heap.size w2 w9) := hbel9
  clear hb9 HB8 HT8 HBc HCc hbel9
  go_wp2_with fail
  refine (table9_ok b off c xs k (xs.length - k) (by omega) _ HC9.out (by omega) h4 _ _ rfl (by omega)).mono ?_
  rintro e w10 ⟨t10, rfl, hb10, htab10⟩
  have HB10 : Hid (Below w9.heap.size w9 w10) := hb10
  have HT10 : Hid (TabOK w10 w9.heap.size t10 ((xs.drop k).take (xs.length - k))) := htab10
  clear hb10 htab10
  go_wp2_with fail
  refine (names8 _ t10 _ _ HT10.out (by simp; omega) (Nat.le_trans (sumSz_part _ _ _) hsum)).mono ?_
  rintro e w11 ⟨rfl, hb11⟩
  have hbel11 : Below w2.heap.size w2 w11 := HB9.out.trans ((HB10.out.trans hb11).mono hz9)
  rw [show (xs.drop k).take (xs.length - k) = xs.drop k from List.take_of_length_le (by simp)]
  have HB11 : Hid (Below w2.heap.size w2 w11) := hbel11
  clear hb11 HB10 HT10 HB9 HC9 hbel11
  by_cases hk0 : k = 0
  · subst hk0
    have e1 : nt (xs.drop 0) = nt xs := by simp
    go_wp2_with fail
    go_ret
    exact ⟨by simp, HB11.out⟩
  have e0 : ((k : Int) == 0) = false := beq_eq_false_iff_ne.2 (by omega)
  by_cases hkn : k = xs.length
  · have e1 : ((k : Int) == (xs.length : Int)) = true := beq_iff_eq.2 (by omega)
    have e2 : nt (xs.take k) = nt xs := by rw [hkn, List.take_of_length_le (Nat.le_refl _)]
    rw [e2]
    clear e2 hkn
    go_wp2_with fail
    go_ret
    exact ⟨by simp, HB11.out⟩
  · have e1 : ((k : Int) == (xs.length : Int)) = false := beq_eq_false_iff_ne.2 (by omega)
    have ecut : nt xs = nt (xs.take k) ++ sepText ++ nt (xs.drop k) := nt_cut xs k (by omega) (by omega)
    have s1 : (nt (xs.take k)).size ≤ 2000000 := by
      have h1 := nt_size (xs.take k)
      have h2 := sumSz_part xs 0 k
      rw [List.drop_zero] at h2
      rw [List.length_take] at h1
      omega
    have s2 : (nt (xs.drop k)).size ≤ 2000000 := by
      have h1 := nt_size (xs.drop k)
      have h2 := sumSz_part xs k (xs.length - k)
      rw [List.take_of_length_le (by simp)] at h2
      rw [List.length_drop] at h1
      omega
    rw [ecut]
    clear ecut hkn
    generalize nt (xs.take k) = pre at *
    generalize nt (xs.drop k) = suf at *
    go_wp2_with fail
    go_ret
    exact ⟨by simp [sepText], HB11.out⟩

set_option maxHeartbeats 1000000 in
theorem walkOff (b off c : Nat) (xs : List ByteArray) (kk : Int) (w : World) (hc : Strs w b off xs) (hs : Short xs) (hn : xs.length ≤ maxLen) (hk : kk < 0 ∨ (xs.length : Int) < kk) :
    Calls Try.prog 3 #[.slice (some ⟨b, off, none⟩) xs.length c, .int .i64 kk] w fun e w' => e = .returned (.bool true) ∧ Below w.heap.size w w' := by
  have HC : Hid (Strs w b off xs) := hc
  have HS : Hid (Short xs) := hs
  have HM : Hid (xs.length ≤ maxLen) := hn
  unfold maxLen at hn
  clear hc hs
  by_cases hk1 : kk < 0
  · clear hk
    go_enter Try.func3, Try.ntmps3
    go_wp2_with fail
    refine (bytes5 b off c xs kk _ HC.out HS.out HM.out).mono ?_
    rintro e w1 ⟨⟨r, rfl, hr⟩, rfl⟩
    cases r
    · go_wp2_with fail
      go_ret
      exact ⟨rfl, Below.refl _ _⟩
    have hr' := hr rfl
    clear hr
    have hsum : sumSz xs ≤ 1048576 := by omega
    go_wp2_with fail
    refine (size6 b off c xs _ HC.out hsum HM.out).mono ?_
    rintro e w2 ⟨⟨r, rfl, hr⟩, rfl⟩
    clear hr
    cases r
    · go_wp2_with fail
      go_ret
      exact ⟨rfl, Below.refl _ _⟩
    · go_wp2_with fail
      go_ret
      exact ⟨rfl, Below.refl _ _⟩
  · have hk2 : (xs.length : Int) < kk := by omega
    clear hk
    go_enter Try.func3, Try.ntmps3
    go_wp2_with fail
    refine (bytes5 b off c xs kk _ HC.out HS.out HM.out).mono ?_
    rintro e w1 ⟨⟨r, rfl, hr⟩, rfl⟩
    cases r
    · go_wp2_with fail
      go_ret
      exact ⟨rfl, Below.refl _ _⟩
    have hr' := hr rfl
    clear hr
    have hsum : sumSz xs ≤ 1048576 := by omega
    go_wp2_with fail
    refine (size6 b off c xs _ HC.out hsum HM.out).mono ?_
    rintro e w2 ⟨⟨r, rfl, hr⟩, rfl⟩
    clear hr
    cases r
    · go_wp2_with fail
      go_ret
      exact ⟨rfl, Below.refl _ _⟩
    · go_wp2_with fail
      go_ret
      exact ⟨rfl, Below.refl _ _⟩

theorem walk (a : Option Addr) (len cap : Nat) (ss : List ByteArray) (kk : Int) (w : World) (h : IsRowS w a len cap ss) :
    Calls Try.prog 3 #[.slice a len cap, .int .i64 kk] w fun e w' => e = .returned (.bool true) ∧ Below w.heap.size w w' := by
  by_cases h0 : len = 0
  · subst h0
    exact walkEmpty a cap kk w
  obtain ⟨b, off, xs, rfl, rfl, hc, hs, hb, hn⟩ := h.open (by omega)
  by_cases hk : kk < 0 ∨ (xs.length : Int) < kk
  · exact walkOff b off cap xs kk w hc hs hn hk
  · obtain ⟨k, rfl⟩ := Int.eq_ofNat_of_zero_le (show 0 ≤ kk by omega)
    exact walkMain b off cap xs k w hc hs hb hn (by omega) (by omega)

set_option maxRecDepth 100000 in
theorem lifted (os : Os) (started : os.Started) (H : Type) (enc : TypeId × Value → H) :
    ReturnsInHanded {} Try.checked os 3 .any (Rows.fnNamesJoinAtAnyCutSpec.pre6 enc Try.prog Try.f3 Rows.fnNamesJoinAtAnyCutRow.domain false) (Rows.fnNamesJoinAtAnyCutSpec.post enc Try.prog Try.f3 false true false false) := by
  refine returnsInHanded_of_change (C := Try.checked) own started (by kernel_rfl) Try.func3
    (ChangeSpec.witness6 (enc := enc) (C := Try.checked) false ⟨#[], #[.slice none 0 0, .int .i64 0], []⟩ 8 (by kernel_rfl) (by kernel_rfl) (by kernel_rfl) (by kernel_rfl)) ?_
  intro W base args ds gs before hval0 hW hcnd _
  have hval : ∀ (j : Nat) t v, Try.f3.params[j]? = some t → args[j]? = some v → Value.okWide Try.prog W .any base t v := hval0
  have hW' := hW
  obtain ⟨p, q, hA0, hV, rfl, hfz, hnd⟩ := hW
  have hA : DataW.TrodAll enc Try.prog W 0 (fun _ => true) true Try.f3.params.toList args.toList ds p := hA0
  rw [Try.params3] at hA hval
  obtain ⟨v0, vs0, d0, ds0, p0, q0, hargs, rfl, rfl, h0, r0⟩ := trodAll_cons hA
  obtain ⟨v1, vs1, d1, ds1, p1, q1, rfl, rfl, rfl, h1, r1⟩ := trodAll_cons r0
  obtain ⟨rfl, rfl, rfl⟩ := trodAll_nil r1
  obtain rfl : args = #[v0, v1] := by cases args; simp_all
  obtain ⟨rfl, rfl⟩ := trodVars_none hV
  obtain ⟨a0, len0, cap0, rfl⟩ := okWide_slice Try.underlying22 (hval 0 22 v0 rfl rfl)
  have k0 := h0
  have lt0 : ∀ x ∈ p0, x.block < W.heap.size := by obtain ⟨m, hm⟩ := k0; exact DataW.trod_lt m _ _ _ hm
  obtain ⟨z0, w0⟩ : ∃ zs, IsRowS W a0 len0 cap0 zs := by
    obtain ⟨fuel, hf⟩ := h0
    rcases open_strings Try.underlying22 Try.underlying9 (by kernel_rfl) hf with ⟨hcs, _⟩ | ⟨x, l, c, zs, hcs, _, hl, hm, hz, _, hcell, hwz⟩
    · simp [Value.cells] at hcs
      obtain ⟨rfl, rfl, rfl⟩ := hcs
      exact ⟨[], .inl ⟨rfl, rfl, rfl, rfl⟩⟩
    · simp [Value.cells] at hcs
      obtain ⟨rfl, rfl, rfl⟩ := hcs
      exact ⟨zs, .inr ⟨_, rfl, hl, hm, by simpa using hz, hcell, hwz⟩⟩
  obtain ⟨a1, rfl, rfl, rfl, w1⟩ := open_int Try.underlying3 (hval 1 3 v1 rfl rfl) h1
  clear hA0 hval0
  refine (walk a0 len0 cap0 z0 a1 W w0).mono fun e W' ⟨he, bel⟩ => ?_
  subst he
  exact ⟨_, rfl, _, _, _, [], _, [], hW', trodAll_mk1 (shut_bool Try.underlying4 _), (trodAll_cons_mk (Below.trod laidOut (by kernel_rfl) (of_decide_eq_true (by kernel_rfl)) k0 bel lt0) (trodAll_cons_mk (shut_int Try.underlying3 w1) trodAll_mk0)), rfl, bel.frame _, fun h => by cases h⟩

theorem over : Rows.fnNamesJoinAtAnyCutRow.holds Try.pinned (OpenSpec.ofChange Rows.fnNamesJoinAtAnyCutSpec) :=
  OpenClaim.holds_of_wide 3 Try.f3 rfl rfl rfl rfl rfl rfl rfl ⟨rfl, rfl, rfl, rfl, rfl⟩ rfl rfl rfl rfl rfl (by kernel_rfl) Try.func3 (by kernel_rfl)
    (of_decide_eq_true (by kernel_rfl)) (by unfold Func.isWrapper; first | (rw [if_pos (by decide +kernel)]; kernel_rfl) | (rw [if_neg (by decide +kernel)]; exact ⟨rfl, rfl⟩))
    (fun os started H enc _ => lifted os started H enc)

/-- ████ THE STATEMENT ████ -/
theorem proved : Rows.FnNamesJoinAtAnyCutSaid := over
#print axioms proved
end Go.Proofs.Qxb6630621a.fnNamesJoinAtAnyCut
