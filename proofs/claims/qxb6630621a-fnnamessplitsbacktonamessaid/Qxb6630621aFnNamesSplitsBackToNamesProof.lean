/-
  'Rows.FnNamesSplitsBackToNamesSaid': the walk out of the callees' contracts; the frame after the kit's shell for slices of integers, turned to a slice of strings.
-/
import Derived.Test.Qxb6630621aRows
import Derived.Test.Qxb6630621aSplitWalk
import Derived.WalkKit
import Derived.ProofKit
import Derived.OpenShut
import Derived.ShutString
import Derived.ChangeOld
import Derived.Below
import Derived.SliceStrings
namespace Go.Proofs.Qxb6630621a.fnNamesSplitsBackToNames
open Go.ChangeShapes Go.WideShapes Go.ChangeAt Go.RowKit
open Go.ChangeMaps (open_string shut_string)
set_option linter.unusedVariables false

theorem own : ownKnob Try.prog.godebug = none := by kernel_rfl
theorem laidOut : laidOutB Try.prog = true := by kernel_rfl

set_option maxHeartbeats 1000000 in
theorem walkEmpty (a : Option Addr) (c : Nat) (w : World) :
    Calls Try.prog 4 #[.slice a 0 c] w fun e w' => e = .returned (.bool true) ∧ Below w.heap.size w w' := by
  go_enter Try.func4, Try.ntmps4
  go_wp2_with fail
  refine (bytes10_none a c _).mono ?_
  rintro e w1 ⟨⟨r, rfl⟩, rfl⟩
  cases r
  · go_wp2_with fail
    go_ret
    exact ⟨rfl, Below.refl _ _⟩
  go_wp2_with fail
  refine (size6_none a c _).mono ?_
  rintro e w2 ⟨rfl, rfl⟩
  go_wp2_with fail
  refine (distinct7_none a c _).mono ?_
  rintro e w2 ⟨rfl, rfl⟩
  go_wp2_with fail
  go_loop [3] (fun i => i = .int .i64 0) (fun _ => 0)
  case atStart => exact rfl
  case round =>
    subst hrel
    go_wp2_with fail
    refine (table9_none a c _).mono ?_
    rintro e w3 ⟨t, rfl, hb3, htab⟩
    have HT : Hid (TabOK w3 w2.heap.size t []) := htab
    have HB : Hid (Below w2.heap.size w2 w3) := hb3
    clear htab hb3
    go_wp2_with fail
    refine (names8 w2.heap.size t [] _ HT.out (by simp) (by simp [sumSz])).mono ?_
    rintro e w4 ⟨rfl, hb4⟩
    have hbb : Below w2.heap.size w2 w4 := HB.out.trans hb4
    have HB4 : Hid (Below w2.heap.size w2 w4) := hbb
    clear hbb hb4
    have hnt : (nt []).toList = [110, 111, 110, 101] := by decide +kernel
    go_wp2_with fail
    go_ret
    exact ⟨rfl, HB4.out⟩

theorem strs_below {w w' : World} {b off B : Nat} {xs : List ByteArray} (h : Strs w b off xs) (hb : Below B w w') (hB : b < B) : Strs w' b off xs :=
  fun j hj => (hb.cell (p := ⟨b, off + j, none⟩) hB).trans (h j hj)
theorem below_drewN {B : Nat} {w w' : World} (h : Below B w w') (q : Nat) : Below B w (w'.drewN q) := ⟨h.os, h.tape, h.output, h.size, h.block⟩
theorem back (xs ps : List ByteArray) (h0 : 0 < xs.length) (hno : ∀ j, j < xs.length → hs (xs.getD j ByteArray.empty) = false) (hp : ps.map (·.data.toList) = split (nt xs).data.toList) : ps = xs := by
  have hne : xs ≠ [] := by rw [← List.length_pos_iff]; exact h0
  rw [nt_pos xs hne] at hp
  have hsep : sepText.data.toList = [44, 32] := rfl
  rw [hsep, split_join _ (by simpa using hne) ?_] at hp
  · apply List.map_inj_right (f := fun x : ByteArray => x.data.toList) (fun a b h => ext_data h) |>.1 hp
  · intro x hx
    rw [List.mem_map] at hx
    obtain ⟨s, hs', rfl⟩ := hx
    obtain ⟨j, hj, rfl⟩ := List.mem_iff_getElem.1 hs'
    have := hno j hj
    simpa [hs, List.getD, hj] using this

set_option maxRecDepth 100000 in
set_option maxHeartbeats 2000000 in
theorem walkMain (b off c : Nat) (xs : List ByteArray) (w : World) (hc : Strs w b off xs) (hsh : Short xs) (hb : b < w.heap.size) (hn : xs.length ≤ maxLen) (h0 : 0 < xs.length) :
    Calls Try.prog 4 #[.slice (some ⟨b, off, none⟩) xs.length c] w fun e w' => e = .returned (.bool true) ∧ Below w.heap.size w w' := by
  have HC : Hid (Strs w b off xs) := hc
  have HS : Hid (Short xs) := hsh
  have HM : Hid (xs.length ≤ maxLen) := hn
  unfold maxLen at hn
  clear hc hsh
  go_enter Try.func4, Try.ntmps4
  go_wp2_with fail
  refine (bytes10 b off c xs _ HC.out HS.out HM.out).mono ?_
  rintro e w1 ⟨⟨r, rfl, hr⟩, rfl⟩
  cases r
  · go_wp2_with fail
    go_ret
    exact ⟨rfl, Below.refl _ _⟩
  have hr' := hr rfl
  clear hr
  have hsum : sumSz xs ≤ 1048576 := by omega
  go_wp2_with fail
  refine (size6 b off c xs _ HC.out hsum HM.out).mono ?_
  rintro e w2 ⟨⟨r, rfl, hr⟩, rfl⟩
  cases r
  · go_wp2_with fail
    go_ret
    exact ⟨rfl, Below.refl _ _⟩
  have h4 : xs.length ≤ 4096 := (hr rfl).1
  clear hr hr'
  go_wp2_with fail
  refine (distinct7 b off c xs _ HC.out h4).mono ?_
  rintro e w3 ⟨⟨r, rfl⟩, q, hq⟩
  have hb3 : Below w2.heap.size w2 w3 := by rw [hq]; exact below_drewN (Below.refl _ _) q
  have HB3 : Hid (Below w2.heap.size w2 w3) := hb3
  clear hq
  cases r
  · go_wp2_with fail
    go_ret
    exact ⟨rfl, HB3.out⟩
  have HC3 : Hid (Strs w3 b off xs) := strs_below HC.out hb3 hb
  have hz3 := hb3.size
  clear hb3
  have hne : ((xs.length : Int) == 0) = false := beq_eq_false_iff_ne.2 (by omega)
  go_wp2_with fail
  go_loop [3] (fun i => ∃ k : Nat, k ≤ xs.length ∧ i = .int .i64 k ∧ ∀ j, j < k → hs (xs.getD j ByteArray.empty) = false) (fun i => xs.length - (intOf i).toNat)
  case atStart => exact ⟨0, Nat.zero_le _, rfl, fun j hj => by omega⟩
  case round =>
    obtain ⟨k, hk, rfl, hno⟩ := hrel
    have HN : Hid (∀ j, j < k → hs (xs.getD j ByteArray.empty) = false) := hno
    clear hno
    by_cases hlt : k < xs.length
    · have hcell := HC3.out k hlt
      have hsz : (xs.getD k ByteArray.empty).size ≤ 1048576 := Nat.le_trans (sumSz_at xs k hlt) hsum
      have HK : Hid (hs (xs.getD k ByteArray.empty) = false → ∀ j, j < k + 1 → hs (xs.getD j ByteArray.empty) = false) := by
        intro h j hj
        by_cases e : j = k
        · rw [e]; exact h
        · exact HN.out j (by omega)
      generalize xs.getD k ByteArray.empty = s at *
      go_wp2_with fail
      refine (hasSep11 s _ hsz).mono ?_
      rintro e w4 ⟨rfl, hw4⟩
      subst hw4
      generalize hs s = hb4 at *
      cases hb4
      · have HK2 : Hid (∀ j, j < k + 1 → hs (xs.getD j ByteArray.empty) = false) := HK.out rfl
        clear HK
        go_wp2_with fail
        go_round
        case rel => exact ⟨k + 1, by omega, by go_num, HK2.out⟩
        case measure => simp [intOf]; omega
      · clear HK
        go_wp2_with fail
        go_ret
        exact ⟨rfl, HB3.out⟩
    · obtain rfl : k = xs.length := by omega
      go_wp2_with fail
      refine (table9_ok b off c xs 0 xs.length (by omega) _ HC3.out (by omega) h4 _ _ rfl (by simp)).mono ?_
      rintro e w4 ⟨t4, rfl, hb4, htab4⟩
      have HB4 : Hid (Below w3.heap.size w3 w4) := hb4
      have HT4 : Hid (TabOK w4 w3.heap.size t4 ((xs.drop 0).take xs.length)) := htab4
      clear hb4 htab4
      go_wp2_with fail
      refine (names8 _ t4 _ _ HT4.out (by simp; omega) (Nat.le_trans (sumSz_part _ _ _) hsum)).mono ?_
      rintro e w5 ⟨rfl, hb5⟩
      have hbel5 : Below w2.heap.size w2 w5 := HB3.out.trans ((HB4.out.trans hb5).mono hz3)
      rw [show (xs.drop 0).take xs.length = xs from by simp]
      have HC5 : Hid (Strs w5 b off xs) := strs_below HC.out hbel5 hb
      have hz5 := hbel5.size
      have HB5 : Hid (Below w2.heap.size w2 w5) := hbel5
      clear hb5 HB4 HT4 HB3 HC3 hbel5
      have hsize : (nt xs).size ≤ 2000000 := by
        have := nt_size xs
        omega
      go_wp2_with fail
      refine (splitSep12 (nt xs) _ hsize).mono ?_
      rintro e w6 ⟨ps, g, cap, rfl, hps, hstr, hg1, hg2, hb6⟩
      obtain rfl : ps = xs := back xs ps h0 HN.out hps
      have hbel6 : Below w2.heap.size w2 w6 := HB5.out.trans (hb6.mono hz5)
      have HC6 : Hid (Strs w6 b off ps) := strs_below HC.out hbel6 hb
      have HP6 : Hid (Strs w6 g 0 ps) := hstr
      have HB6 : Hid (Below w2.heap.size w2 w6) := hbel6
      clear hps hstr hb6 hbel6 HB5 HC5 HN hsize
      have hll : (!((ps.length : Int) == (ps.length : Int))) = false := by simp
      go_wp2_with fail
      go_loopw [6] (fun i wr => ∃ k q : Nat, k ≤ ps.length ∧ i = .int .i64 k ∧ wr = w6.drewN q) (fun i _ => ps.length - (intOf i).toNat)
      case atStart => exact ⟨0, 0, Nat.zero_le _, rfl, rfl⟩
      case round =>
        obtain ⟨k, q, hk2, rfl, rfl⟩ := hrel
        by_cases hlt2 : k < ps.length
        · have c1 := HC6.out k hlt2
          have c2 := HP6.out k hlt2
          rw [Nat.zero_add] at c2
          have hl1 : (k : Int) < (ps.length : Int) := by omega
          generalize ps.getD k ByteArray.empty = s at *
          go_wp2_with fail
          go_quiet (fail)
          go_wp2_with fail
          go_roundw
          case rel => exact ⟨k + 1, q + nq, by omega, by go_num, rfl⟩
          case measure => simp [intOf]; omega
        · go_wp2_with fail
          go_ret
          exact ⟨rfl, below_drewN HB6.out q⟩

theorem walk (a : Option Addr) (len cap : Nat) (ss : List ByteArray) (w : World) (h : IsRowS w a len cap ss) :
    Calls Try.prog 4 #[.slice a len cap] w fun e w' => e = .returned (.bool true) ∧ Below w.heap.size w w' := by
  by_cases h0 : len = 0
  · subst h0
    exact walkEmpty a cap w
  obtain ⟨b, off, xs, rfl, rfl, hc, hsh, hb, hn⟩ := h.open (by omega)
  exact walkMain b off cap xs w hc hsh hb hn (by omega)

set_option maxRecDepth 100000 in
theorem lifted (os : Os) (started : os.Started) (H : Type) (enc : TypeId × Value → H) :
    ReturnsInHanded {} Try.checked os 4 .any (Rows.fnNamesSplitsBackToNamesSpec.pre6 enc Try.prog Try.f4 Rows.fnNamesSplitsBackToNamesRow.domain false) (Rows.fnNamesSplitsBackToNamesSpec.post enc Try.prog Try.f4 false true false false) := by
  refine returnsInHanded_of_change (C := Try.checked) own started (by kernel_rfl) Try.func4
    (ChangeSpec.witness6 (enc := enc) (C := Try.checked) false ⟨#[], #[.slice none 0 0], []⟩ 8 (by kernel_rfl) (by kernel_rfl) (by kernel_rfl) (by kernel_rfl)) ?_
  intro W base args ds gs before hval0 hW hcnd _
  have hval : ∀ (j : Nat) t v, Try.f4.params[j]? = some t → args[j]? = some v → Value.okWide Try.prog W .any base t v := hval0
  have hW' := hW
  obtain ⟨p, q, hA0, hV, rfl, hfz, hnd⟩ := hW
  have hA : DataW.TrodAll enc Try.prog W 0 (fun _ => true) true Try.f4.params.toList args.toList ds p := hA0
  rw [Try.params4] at hA hval
  obtain ⟨v0, vs0, d0, ds0, p0, q0, hargs, rfl, rfl, h0, r0⟩ := trodAll_cons hA
  obtain ⟨rfl, rfl, rfl⟩ := trodAll_nil r0
  obtain rfl : args = #[v0] := by cases args; simp_all
  obtain ⟨rfl, rfl⟩ := trodVars_none hV
  obtain ⟨a0, len0, cap0, rfl⟩ := okWide_slice Try.underlying22 (hval 0 22 v0 rfl rfl)
  have k0 := h0
  have lt0 : ∀ x ∈ p0, x.block < W.heap.size := by obtain ⟨m, hm⟩ := k0; exact DataW.trod_lt m _ _ _ hm
  obtain ⟨z0, w0⟩ : ∃ zs, IsRowS W a0 len0 cap0 zs := by
    obtain ⟨fuel, hf⟩ := h0
    rcases open_strings Try.underlying22 Try.underlying9 (by kernel_rfl) hf with ⟨hcs, _⟩ | ⟨x, l, c, zs, hcs, _, hl, hm, hz, _, hcell, hwz⟩
    · simp [Value.cells] at hcs
      obtain ⟨rfl, rfl, rfl⟩ := hcs
      exact ⟨[], .inl ⟨rfl, rfl, rfl, rfl⟩⟩
    · simp [Value.cells] at hcs
      obtain ⟨rfl, rfl, rfl⟩ := hcs
      exact ⟨zs, .inr ⟨_, rfl, hl, hm, by simpa using hz, hcell, hwz⟩⟩
  clear hA0 hval0
  refine (walk a0 len0 cap0 z0 W w0).mono fun e W' ⟨he, bel⟩ => ?_
  subst he
  exact ⟨_, rfl, _, _, _, [], _, [], hW', trodAll_mk1 (shut_bool Try.underlying4 _), (trodAll_cons_mk (Below.trod laidOut (by kernel_rfl) (of_decide_eq_true (by kernel_rfl)) k0 bel lt0) trodAll_mk0), rfl, bel.frame _, fun h => by cases h⟩

theorem over : Rows.fnNamesSplitsBackToNamesRow.holds Try.pinned (OpenSpec.ofChange Rows.fnNamesSplitsBackToNamesSpec) :=
  OpenClaim.holds_of_wide 4 Try.f4 rfl rfl rfl rfl rfl rfl rfl ⟨rfl, rfl, rfl, rfl, rfl⟩ rfl rfl rfl rfl rfl (by kernel_rfl) Try.func4 (by kernel_rfl)
    (of_decide_eq_true (by kernel_rfl)) (by unfold Func.isWrapper; first | (rw [if_pos (by decide +kernel)]; kernel_rfl) | (rw [if_neg (by decide +kernel)]; exact ⟨rfl, rfl⟩))
    (fun os started H enc _ => lifted os started H enc)

/-- ████ THE STATEMENT ████ -/
theorem proved : Rows.FnNamesSplitsBackToNamesSaid := over
#print axioms proved
end Go.Proofs.Qxb6630621a.fnNamesSplitsBackToNames
