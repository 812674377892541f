/-
  The guards' contracts: zzBytes (5), wellFormedObject (6).
-/
import Derived.Test.Qxb6625799aRows
import Derived.WalkKit
import Derived.ProofKit
import Derived.OpenShut
import Derived.ShutString
import Derived.WalkSpells
import Derived.Deep.QuietTactic
import Derived.BigQuiet
import Derived.Below
namespace Go.Proofs.Qxb6625799a
open Go.ChangeShapes Go.WideShapes Go.ChangeAt Go.RowKit
set_option linter.unusedVariables false

/-- Some bool came back. -/
def IsBool (e : Ending) : Prop := ∃ r : Bool, e = .returned (.bool r)
/-- The elements of a slice of integers lie at its address (no matter what where there are none). -/
def Row (k : IntKind) (w : World) (a : Option Addr) (zs : List Int) : Prop :=
  zs = [] ∨ ∃ b off, a = some ⟨b, off, none⟩ ∧ b < w.heap.size ∧ ∀ j, j < zs.length → w.cell? ⟨b, off + j, none⟩ = some (.int k (zs.getD j 0))
/-- One field: its name's span lies inside the source; what it holds follows it. -/
def Fit (ls n i : Nat) (f t z : Int) : Prop := 0 ≤ f ∧ f ≤ t ∧ t ≤ ls ∧ 0 ≤ z ∧ z ≤ (n : Int) - 1 - i
def Well (ls : Nat) (F T Z : List Int) : Prop :=
  T.length = F.length ∧ Z.length = F.length ∧ ∀ i, i < F.length → Fit ls F.length i (F.getD i 0) (T.getD i 0) (Z.getD i 0)
def WellR (ls : Nat) (F T Z : List Int) (e : Ending) : Prop := ∃ r : Bool, e = .returned (.bool r) ∧ (r = true → Well ls F T Z)

theorem Row.at_pos {k : IntKind} {w : World} {a : Option Addr} {zs : List Int} (h : Row k w a zs) (h0 : 0 < zs.length) :
    ∃ b off, a = some ⟨b, off, none⟩ ∧ b < w.heap.size ∧ ∀ j, j < zs.length → w.cell? ⟨b, off + j, none⟩ = some (.int k (zs.getD j 0)) := by
  rcases h with rfl | h
  · simp at h0
  · exact h

set_option maxHeartbeats 1000000 in
theorem bytes5 (a0 a1 a2 a3 : Option Addr) (n0 n1 n2 n3 c0 c1 c2 c3 : Nat) (s4 s5 : ByteArray) (w : World) (h0 : n0 ≤ maxLen) (h1 : n1 ≤ maxLen) (h2 : n2 ≤ maxLen) (h3 : n3 ≤ maxLen) (h4 : s4.size ≤ maxLen) (h5 : s5.size ≤ maxLen) :
    Calls Try.prog 5 #[.slice a0 n0 c0, .slice a1 n1 c1, .slice a2 n2 c2, .slice a3 n3 c3, .string s4, .string s5] w fun e w' => IsBool e ∧ w' = w := by
  unfold maxLen at h0 h1 h2 h3 h4 h5
  go_enter Try.func5, Try.ntmps5
  go_wp2
  all_goals (go_ret; exact ⟨⟨_, rfl⟩, rfl⟩)

theorem drewN_add (w : World) (a b : Nat) : (w.drewN a).drewN b = w.drewN (a + b) := by
  simp [World.drewN, Nat.add_assoc]

theorem well6_off (a0 a1 a2 a3 : Option Addr) (n0 n1 n2 n3 c0 c1 c2 c3 : Nat) (w : World) (hne : ¬ (n2 = n1 ∧ n3 = n1)) :
    Calls Try.prog 6 #[.slice a0 n0 c0, .slice a1 n1 c1, .slice a2 n2 c2, .slice a3 n3 c3] w fun e w' => e = .returned (.bool false) ∧ w' = w := by
  by_cases h2 : n2 = n1
  · have e2 : ((n2 : Int) != (n1 : Int)) = false := by simp [h2]
    have e3 : ((n3 : Int) != (n1 : Int)) = true := by simp; omega
    clear hne h2
    go_enter Try.func6, Try.ntmps6
    go_wp2
    go_ret
    exact ⟨rfl, rfl⟩
  · have e2 : ((n2 : Int) != (n1 : Int)) = true := by simp; omega
    clear hne h2
    go_enter Try.func6, Try.ntmps6
    go_wp2
    go_ret
    exact ⟨rfl, rfl⟩

theorem well6_none (a0 a1 a2 a3 : Option Addr) (n0 c0 c1 c2 c3 : Nat) (w : World) :
    Calls Try.prog 6 #[.slice a0 n0 c0, .slice a1 0 c1, .slice a2 0 c2, .slice a3 0 c3] w fun e w' => e = .returned (.bool true) ∧ w' = w := by
  go_enter Try.func6, Try.ntmps6
  go_wp2
  go_loop [10] (fun i => i = .int .i64 0) (fun _ => 0)
  case atStart => exact rfl
  case round =>
    subst hrel
    go_wp2
    go_ret
    exact ⟨rfl, rfl⟩

set_option maxHeartbeats 1000000 in
theorem well6_some (a0 : Option Addr) (n0 c0 c1 c2 c3 b1 o1 b2 o2 b3 o3 : Nat) (F T Z : List Int) (n : Nat) (w : World) (hF : F.length = n) (hT : T.length = n) (hZ : Z.length = n) (hn : n ≤ 16384) (hn0 : n0 ≤ 262144)
    (hc1 : ∀ j, j < F.length → w.cell? ⟨b1, o1 + j, none⟩ = some (.int .i64 (F.getD j 0))) (hc2 : ∀ j, j < T.length → w.cell? ⟨b2, o2 + j, none⟩ = some (.int .i64 (T.getD j 0))) (hc3 : ∀ j, j < Z.length → w.cell? ⟨b3, o3 + j, none⟩ = some (.int .i64 (Z.getD j 0))) :
    Calls Try.prog 6 #[.slice a0 n0 c0, .slice (some ⟨b1, o1, none⟩) n c1, .slice (some ⟨b2, o2, none⟩) n c2, .slice (some ⟨b3, o3, none⟩) n c3] w fun e w' => WellR n0 F T Z e ∧ ∃ q, w' = w.drewN q := by
  have H1 : Hid (∀ j, j < F.length → w.cell? ⟨b1, o1 + j, none⟩ = some (.int .i64 (F.getD j 0))) := hc1
  have H2 : Hid (∀ j, j < T.length → w.cell? ⟨b2, o2 + j, none⟩ = some (.int .i64 (T.getD j 0))) := hc2
  have H3 : Hid (∀ j, j < Z.length → w.cell? ⟨b3, o3 + j, none⟩ = some (.int .i64 (Z.getD j 0))) := hc3
  have HL : Hid (F.length = n ∧ T.length = n ∧ Z.length = n) := ⟨hF, hT, hZ⟩
  clear hc1 hc2 hc3 hF hT hZ
  go_enter Try.func6, Try.ntmps6
  go_wp2
  go_loopw [10] (fun i wr => ∃ k q : Nat, k ≤ n ∧ i = .int .i64 k ∧ wr = w.drewN q ∧ ∀ j, j < k → Fit n0 n j (F.getD j 0) (T.getD j 0) (Z.getD j 0)) (fun i _ => n - (intOf i).toNat)
  case atStart => exact ⟨0, 0, Nat.zero_le _, rfl, rfl, fun j hj => by omega⟩
  case round =>
    obtain ⟨k, q, hk, rfl, rfl, hfit⟩ := hrel
    have HF : Hid (∀ j, j < k → Fit n0 n j (F.getD j 0) (T.getD j 0) (Z.getD j 0)) := hfit
    clear hfit
    by_cases hlt : k < n
    · have g1 := H1.out k (by have := HL.out; omega)
      have g2 := H2.out k (by have := HL.out; omega)
      have g3 := H3.out k (by have := HL.out; omega)
      have HK : Hid (Fit n0 n k (F.getD k 0) (T.getD k 0) (Z.getD k 0) → ∀ j, j < k + 1 → Fit n0 n j (F.getD j 0) (T.getD j 0) (Z.getD j 0)) := by
        intro h j hj
        by_cases e : j = k
        · rw [e]; exact h
        · exact HF.out j (by omega)
      have hl : (k : Int) < (n : Int) := by omega
      generalize F.getD k 0 = f at *
      generalize T.getD k 0 = t at *
      generalize Z.getD k 0 = z at *
      by_cases d1 : f < 0
      · have dd1 : decide (f < 0) = true := decide_eq_true d1
        go_wp2
        go_quiet (fail)
        go_wp2
        go_ret
        exact ⟨⟨false, rfl, by simp⟩, ⟨_, drewN_add _ _ _⟩⟩
      have dd1 : decide (f < 0) = false := decide_eq_false d1
      by_cases d2 : t < f
      · have dd2 : decide (t < f) = true := decide_eq_true d2
        go_wp2
        go_quiet (fail)
        go_wp2
        go_ret
        exact ⟨⟨false, rfl, by simp⟩, ⟨_, drewN_add _ _ _⟩⟩
      have dd2 : decide (t < f) = false := decide_eq_false d2
      by_cases d3 : (n0 : Int) < t
      · have dd3 : decide ((n0 : Int) < t) = true := decide_eq_true d3
        go_wp2
        go_quiet (fail)
        go_wp2
        go_ret
        exact ⟨⟨false, rfl, by simp⟩, ⟨_, drewN_add _ _ _⟩⟩
      have dd3 : decide ((n0 : Int) < t) = false := decide_eq_false d3
      go_wp2
      go_quiet (fail)
      go_wp2
      · go_ret
        exact ⟨⟨false, rfl, by simp⟩, ⟨_, rfl⟩⟩
      · have hz : 0 ≤ z ∧ z ≤ (n : Int) - 1 - k := by assumption
        have HK2 : Hid (∀ j, j < k + 1 → Fit n0 n j (F.getD j 0) (T.getD j 0) (Z.getD j 0)) := HK.out ⟨by omega, by omega, by omega, hz.1, hz.2⟩
        go_roundw
        case rel => exact ⟨k + 1, q + nq, by omega, by go_num, rfl, HK2.out⟩
        case measure => simp [intOf]; omega
      · go_ret
        exact ⟨⟨false, rfl, by simp⟩, ⟨_, rfl⟩⟩
    · go_wp2
      go_ret
      refine ⟨⟨true, rfl, fun _ => ?_⟩, ⟨_, rfl⟩⟩
      have h := HL.out
      refine ⟨by omega, by omega, fun i hi => ?_⟩
      rw [h.1]
      exact HF.out i (by omega)

/-- wellFormedObject: a bool; if it is true the object is well formed. It only reads. -/
theorem well6 (a0 a1 a2 a3 : Option Addr) (n0 c0 c1 c2 c3 : Nat) (F T Z : List Int) (w : World) (h1 : Row .i64 w a1 F) (h2 : Row .i64 w a2 T) (h3 : Row .i64 w a3 Z) (hn : F.length ≤ 16384) (hn0 : n0 ≤ 262144) :
    Calls Try.prog 6 #[.slice a0 n0 c0, .slice a1 F.length c1, .slice a2 T.length c2, .slice a3 Z.length c3] w fun e w' => WellR n0 F T Z e ∧ ∃ q, w' = w.drewN q := by
  by_cases he : T.length = F.length ∧ Z.length = F.length
  · obtain ⟨eT, eZ⟩ := he
    by_cases h0 : F.length = 0
    · rw [eT, eZ, h0]
      refine (well6_none a0 a1 a2 a3 n0 c0 c1 c2 c3 w).mono ?_
      rintro e w' ⟨rfl, rfl⟩
      exact ⟨⟨true, rfl, fun _ => ⟨eT, eZ, fun i hi => by omega⟩⟩, 0, rfl⟩
    · obtain ⟨b1, o1, rfl, _, hc1⟩ := h1.at_pos (by omega)
      obtain ⟨b2, o2, rfl, _, hc2⟩ := h2.at_pos (by omega)
      obtain ⟨b3, o3, rfl, _, hc3⟩ := h3.at_pos (by omega)
      rw [eT, eZ]
      exact well6_some a0 n0 c0 c1 c2 c3 b1 o1 b2 o2 b3 o3 F T Z F.length w rfl eT eZ hn hn0 hc1 hc2 hc3
  · refine (well6_off a0 a1 a2 a3 n0 F.length T.length Z.length c0 c1 c2 c3 w he).mono ?_
    rintro e w' ⟨rfl, rfl⟩
    exact ⟨⟨false, rfl, by simp⟩, 0, rfl⟩
end Go.Proofs.Qxb6625799a
