/-
  next (10), span.in (11), (*object).given (9).
-/
import Derived.Test.Qxb6625799aSmall
import Derived.OwnWalk
import Derived.Laws.Rows
import Derived.Laws.IdiomStrings
import Derived.Laws.BytesArg
import Derived.Deep.RegionWith
import Derived.Deep.Cut
import Derived.Deep.CutRange
import Derived.Deep.Light
namespace Go.Proofs.Qxb6625799a
open Go.ChangeShapes Go.WideShapes Go.ChangeAt Go.RowKit
set_option linter.unusedVariables false

theorem next10 (g n c i : Nat) (z : Int) (w : World) (hi : i < n) (hn : n ≤ 16385) (hz0 : 0 ≤ z) (hz1 : z ≤ 16385) (hc : w.cell? ⟨g, i * 8 + 4, none⟩ = some (.int .i64 z)) :
    Calls Try.prog 10 #[.slice (some ⟨g, 0, none⟩) n c, .int .i64 i] w fun e w' => e = .returned (.int .i64 ((i : Int) + 1 + z)) ∧ w' = w := by
  go_enter Try.func10, Try.ntmps10
  go_wp2
  go_ret
  exact ⟨rfl, rfl⟩

/-- The source: nil and empty, or its bytes at its address. -/
def Src (w : World) (a : Option Addr) (ls c : Nat) (S : List Int) : Prop :=
  (a = none ∧ S = [] ∧ ls = 0 ∧ c = 0) ∨
  ∃ b off, a = some ⟨b, off, none⟩ ∧ b < w.heap.size ∧ ls = S.length ∧ ls ≤ c ∧ c ≤ maxLen ∧ ∀ j, j < S.length → w.cell? ⟨b, off + j, none⟩ = some (.int .u8 (S.getD j 0))
theorem Src.below {w w' : World} {a : Option Addr} {ls c : Nat} {S : List Int} (h : Src w a ls c S) (hb : Below w.heap.size w w') : Src w' a ls c S := by
  rcases h with h | ⟨b, off, rfl, h1, h2, h3, h4, h5⟩
  · exact .inl h
  · exact .inr ⟨b, off, rfl, Nat.lt_of_lt_of_le h1 hb.size, h2, h3, h4, fun j hj => (hb.cell (p := ⟨b, off + j, none⟩) h1).trans (h5 j hj)⟩

theorem conv_zero (w : World) (p : Option Addr) (c : Nat) : (convert 22 9 (.slice p 0 c)).run Try.prog w = .ok (.string (strOfNums [])) w := by
  rw [run_convert_bytes_string w 22 9 5 _ 0 c Try.underlying22 Try.underlying5 Try.underlying9]
  have h : (Conv.bytesToString (.slice p 0 c)).run Try.prog w = .ok (.string ByteArray.empty) w := by
    cases p <;> simp [Conv.bytesToString, loadCells, loadCellsFrom]
  exact h

/-- The bytes of one span, as a text. -/
def cutText (S : List Int) (f t : Int) : ByteArray := strOfNums ((S.drop f.toNat).take (t.toNat - f.toNat))
/-- What span.in leaves: a slice that converts to the text. -/
def Piece (s : ByteArray) (e : Ending) (w' : World) : Prop := ∃ a' m c', e = .returned (.slice a' m c') ∧ (convert 22 9 (.slice a' m c')).run Try.prog w' = .ok (.string s) w'

theorem in11_none (w : World) :
    Calls Try.prog 11 #[.agg #[.int .i64 0, .int .i64 0], .slice none 0 0] w fun e w' => Piece (strOfNums []) e w' ∧ Below w.heap.size w w' := by
  go_enter Try.func11, Try.ntmps11
  go_wp2
  go_ret
  exact ⟨⟨_, _, _, rfl, conv_zero _ _ _⟩, (Below.refl _ _).alloc (Nat.le_refl _) _⟩

theorem in11_some (b off n c f t : Nat) (S : List Int) (w : World) (hft : f ≤ t) (ht : t ≤ n) (hnc : n ≤ c) (hc : c ≤ maxLen) (hb : b < w.heap.size) (hS : S.length = n) (hcell : ∀ j, j < S.length → w.cell? ⟨b, off + j, none⟩ = some (.int .u8 (S.getD j 0))) :
    Calls Try.prog 11 #[.agg #[.int .i64 f, .int .i64 t], .slice (some ⟨b, off, none⟩) n c] w fun e w' => Piece (strOfNums ((S.drop f).take (t - f))) e w' ∧ Below w.heap.size w w' := by
  have hcv : ∀ w' : World, Below w.heap.size w w' → (convert 22 9 (.slice (some ⟨b, off + f, none⟩) (t - f) (c - f))).run Try.prog w' = .ok (.string (strOfNums ((S.drop f).take (t - f)))) w' := by
    intro w' hb'
    refine run_convert_bytes_arg w' 22 5 Try.underlying22 Try.underlying5 b (off + f) (t - f) (c - f) _ (by simp; omega) ?_ 9 Try.underlying9
    intro i hi
    rw [hb'.cell (p := ⟨b, off + f + i, none⟩) hb, Nat.add_assoc, hcell (f + i) (by omega)]
    simp [List.getD, List.getElem?_drop, hi]
  have HV : Hid (∀ w' : World, Below w.heap.size w w' → (convert 22 9 (.slice (some ⟨b, off + f, none⟩) (t - f) (c - f))).run Try.prog w' = .ok (.string (strOfNums ((S.drop f).take (t - f)))) w') := hcv
  unfold maxLen at hc
  clear hcv hcell
  by_cases hfc : f = c
  · obtain rfl : t = f := by omega
    have hz : Hid (strOfNums ((S.drop t).take (t - t)) = strOfNums []) := by unfold Hid; simp
    go_enter Try.func11, Try.ntmps11
    go_wp2
    all_goals
      go_ret
      refine ⟨?_, (Below.refl _ _).alloc (Nat.le_refl _) _⟩
      rw [hz.out]
      exact ⟨_, _, _, rfl, conv_zero _ _ _⟩
  · have hfc' : f < c := by omega
    go_enter Try.func11, Try.ntmps11
    go_wp2
    go_ret
    have hb2 := (Below.refl w.heap.size w).alloc (Nat.le_refl _) (.cells #[.int .i64 f, .int .i64 t] 30)
    exact ⟨⟨_, _, _, rfl, HV.out _ hb2⟩, hb2⟩

theorem in11 (a : Option Addr) (ls c : Nat) (S : List Int) (f t : Int) (w : World) (h : Src w a ls c S) (h0 : 0 ≤ f) (hft : f ≤ t) (ht : t ≤ ls) :
    Calls Try.prog 11 #[.agg #[.int .i64 f, .int .i64 t], .slice a ls c] w fun e w' => Piece (cutText S f t) e w' ∧ Below w.heap.size w w' := by
  obtain ⟨fn, rfl⟩ := Int.eq_ofNat_of_zero_le h0
  obtain ⟨tn, rfl⟩ := Int.eq_ofNat_of_zero_le (show 0 ≤ t by omega)
  rcases h with ⟨rfl, rfl, rfl, rfl⟩ | ⟨b, off, rfl, h1, h2, h3, h4, h5⟩
  · obtain rfl : fn = 0 := by omega
    obtain rfl : tn = 0 := by omega
    exact in11_none w
  · exact in11_some b off ls c fn tn S w (by omega) (by omega) h3 h4 h1 h2.symm h5

/-! ### What 'given' computes -/
def eqs (a b : ByteArray) : Bool := a.toList == b.toList
def gv (nm : Nat → ByteArray) (sz : Nat → Nat) (n : Nat) (p : ByteArray) : Nat → Nat → Bool
  | 0, _ => false
  | fuel + 1, i => if i < n then (eqs (nm i) p || gv nm sz n p fuel (i + 1 + sz i)) else false
theorem gv_out (nm : Nat → ByteArray) (sz : Nat → Nat) (n : Nat) (p : ByteArray) (fuel i : Nat) (h : n ≤ i) : gv nm sz n p fuel i = false := by
  cases fuel with
  | zero => rfl
  | succ f => simp [gv, show ¬ i < n from by omega]
theorem gv_more (nm : Nat → ByteArray) (sz : Nat → Nat) (n : Nat) (p : ByteArray) : ∀ f f' i, n - i ≤ f → n - i ≤ f' → gv nm sz n p f i = gv nm sz n p f' i := by
  intro f
  induction f with
  | zero => intro f' i h h'; rw [gv_out _ _ _ _ _ _ (by omega), gv_out _ _ _ _ _ _ (by omega)]
  | succ f ih =>
    intro f' i h h'
    cases f' with
    | zero => rw [gv_out _ _ _ _ _ _ (by omega), gv_out _ _ _ _ _ _ (by omega)]
    | succ f' =>
      simp only [gv]
      by_cases hi : i < n
      · rw [if_pos hi, if_pos hi, ih f' (i + 1 + sz i) (by omega) (by omega)]
      · rw [if_neg hi, if_neg hi]
/-- The answer from place i on. -/
def gvAt (nm : Nat → ByteArray) (sz : Nat → Nat) (n : Nat) (p : ByteArray) (i : Nat) : Bool := gv nm sz n p (n - i) i
theorem gvAt_step (nm : Nat → ByteArray) (sz : Nat → Nat) (n : Nat) (p : ByteArray) (i : Nat) (hi : i < n) : gvAt nm sz n p i = (eqs (nm i) p || gvAt nm sz n p (i + 1 + sz i)) := by
  unfold gvAt
  obtain ⟨m, hm⟩ : ∃ m, n - i = m + 1 := ⟨n - i - 1, by omega⟩
  rw [hm]
  simp only [gv, if_pos hi]
  rw [gv_more nm sz n p m (n - (i + 1 + sz i)) (i + 1 + sz i) (by omega) (by omega)]
theorem gvAt_out (nm : Nat → ByteArray) (sz : Nat → Nat) (n : Nat) (p : ByteArray) (i : Nat) (hi : n ≤ i) : gvAt nm sz n p i = false := gv_out _ _ _ _ _ _ hi

def nmOf (S F T : List Int) (i : Nat) : ByteArray := cutText S (F.getD i 0) (T.getD i 0)
def szOf (Z : List Int) (i : Nat) : Nat := (Z.getD i 0).toNat
/-- ZZgiven's answer. -/
def givenB (S F T Z : List Int) (p : ByteArray) : Bool := gvAt (nmOf S F T) (szOf Z) F.length p 0

/-- The fields in memory: name's span, size. -/
def Flds (w : World) (g n : Nat) (F T Z : List Int) : Prop := ∀ i, i < n → w.cell? ⟨g, i * 8, none⟩ = some (.int .i64 (F.getD i 0)) ∧ w.cell? ⟨g, i * 8 + 1, none⟩ = some (.int .i64 (T.getD i 0)) ∧ w.cell? ⟨g, i * 8 + 4, none⟩ = some (.int .i64 (Z.getD i 0))

set_option maxHeartbeats 1000000 in
theorem given9 (ob g n c : Nat) (a : Option Addr) (ls cs : Nat) (S F T Z : List Int) (p : ByteArray) (w : World) (hn : F.length = n) (hn2 : n ≤ 16385) (hob : ob < w.heap.size) (hg : g < w.heap.size)
    (h9 : w.cell? ⟨ob, 9, none⟩ = some (.slice (some ⟨g, 0, none⟩) n c)) (h10 : w.cell? ⟨ob, 10, none⟩ = some (.slice a ls cs)) (hfl : Flds w g n F T Z) (hsrc : Src w a ls cs S) (hw : Well ls F T Z) :
    Calls Try.prog 9 #[.pointer (some ⟨ob, 0, none⟩), .string p] w fun e w' => e = .returned (.bool (givenB S F T Z p)) ∧ Below w.heap.size w w' := by
  have HF : Hid (Flds w g n F T Z) := hfl
  have HS : Hid (Src w a ls cs S) := hsrc
  have HW : Hid (Well ls F T Z) := hw
  have HN : Hid (F.length = n) := hn
  have H9 : Hid (w.cell? ⟨ob, 9, none⟩ = some (.slice (some ⟨g, 0, none⟩) n c)) := h9
  have H10 : Hid (w.cell? ⟨ob, 10, none⟩ = some (.slice a ls cs)) := h10
  clear hfl hsrc hw hn h9 h10
  go_enter Try.func9, Try.ntmps9
  go_wp2
  go_loopw [5] (fun i wr => ∃ k : Nat, k ≤ n ∧ i = .int .i64 k ∧ gvAt (nmOf S F T) (szOf Z) n p k = givenB S F T Z p ∧ Below w.heap.size w wr) (fun i _ => n - (intOf i).toNat)
  case atStart => exact ⟨0, Nat.zero_le _, rfl, by unfold givenB; rw [HN.out], Below.refl _ _⟩
  case round =>
    obtain ⟨k, hk, rfl, hgv, hnx⟩ := hrel
    have HG : Hid (gvAt (nmOf S F T) (szOf Z) n p k = givenB S F T Z p) := hgv
    have HB : Hid (Below w.heap.size w wr) := hnx
    have k9 : wr.cell? ⟨ob, 9, none⟩ = some (.slice (some ⟨g, 0, none⟩) n c) := (hnx.cell hob).trans H9.out
    have k10 : wr.cell? ⟨ob, 10, none⟩ = some (.slice a ls cs) := (hnx.cell hob).trans H10.out
    have hz := hnx.size
    clear hgv hnx
    by_cases hlt : k < n
    · have hfit := HW.out.2.2 k (by rw [HN.out]; exact hlt)
      have q0 : wr.cell? ⟨g, k * 8, none⟩ = some (.int .i64 (F.getD k 0)) := (HB.out.cell hg).trans (HF.out k hlt).1
      have q1 : wr.cell? ⟨g, k * 8 + 1, none⟩ = some (.int .i64 (T.getD k 0)) := (HB.out.cell hg).trans (HF.out k hlt).2.1
      have q4 : wr.cell? ⟨g, k * 8 + 4, none⟩ = some (.int .i64 (Z.getD k 0)) := (HB.out.cell hg).trans (HF.out k hlt).2.2
      obtain ⟨f1, f2, f3, f4, f5⟩ := hfit
      rw [HN.out] at f5
      have HST : Hid (gvAt (nmOf S F T) (szOf Z) n p k = (eqs (cutText S (F.getD k 0) (T.getD k 0)) p || gvAt (nmOf S F T) (szOf Z) n p (k + 1 + (Z.getD k 0).toNat))) := gvAt_step _ _ _ _ k hlt
      have hl : (k : Int) < (n : Int) := by omega
      generalize F.getD k 0 = f at *
      generalize T.getD k 0 = t at *
      generalize Z.getD k 0 = z at *
      have HSd : Hid (Src wr.drew a ls cs S) := HS.out.below HB.out.drew
      go_upto_region 4 with fail
      go_cut [34] from 6 to 34 (fun s34 wx => s34 = .bool (eqs (cutText S f t) p) ∧ Below w.heap.size w wx)
      case first =>
        go_region_with (go_at_call 11; refine (in11 a ls cs S f t wr.drew HSd.out f1 f2 f3).mono ?_; rintro e w6 ⟨⟨a', m', c', rfl, hcv⟩, hb6⟩)
        all_goals (go_wp2_with fail; go_meet; go_light; exact ⟨rfl, HB.out.drew.trans (hb6.mono hz)⟩)
      obtain ⟨rfl, hbc⟩ := hcut
      have HBc : Hid (Below w.heap.size w wc) := hbc
      have m9 : wc.cell? ⟨ob, 9, none⟩ = some (.slice (some ⟨g, 0, none⟩) n c) := (hbc.cell hob).trans H9.out
      have m4 : wc.cell? ⟨g, k * 8 + 4, none⟩ = some (.int .i64 z) := by
        have h1 := HB.out.cell (p := ⟨g, k * 8 + 4, none⟩) hg
        have h2 := hbc.cell (p := ⟨g, k * 8 + 4, none⟩) hg
        rw [h2, ← h1]; exact q4
      clear hbc HSd k9 k10 q0 q1 q4
      generalize eqs (cutText S f t) p = eb at *
      cases eb
      · have HN2 : Hid (gvAt (nmOf S F T) (szOf Z) n p (k + 1 + z.toNat) = givenB S F T Z p) := by
          have h1 := HG.out
          rw [HST.out] at h1
          exact h1
        go_wp2_with fail
        refine (next10 g n c k z _ hlt hn2 f4 (by omega) m4).mono ?_
        rintro e w7 ⟨rfl, hw7⟩
        subst hw7
        go_wp2_with fail
        go_roundw
        case rel => exact ⟨k + 1 + z.toNat, by omega, by go_num, HN2.out, HBc.out⟩
        case measure => simp [intOf]; omega
      · have HT : Hid (givenB S F T Z p = true) := by
          unfold Hid
          rw [← HG.out, HST.out]; simp
        go_wp2_with fail
        go_ret
        exact ⟨by rw [HT.out]; rfl, HBc.out⟩
    · have HO : Hid (givenB S F T Z p = false) := by
        unfold Hid
        rw [← HG.out]; exact gvAt_out _ _ _ _ _ (by omega)
      go_wp2_with fail
      go_ret
      exact ⟨by rw [HO.out]; rfl, HB.out⟩
end Go.Proofs.Qxb6625799a
