/-
  The callees' contracts: zzIsDigit (7), Digits (6).
-/
import Derived.Test.Qxb6630578aRows
import Derived.WalkKit
import Derived.ProofKit
import Derived.OpenShut
import Derived.ShutString
import Derived.WalkSpells
namespace Go.Proofs.Qxb6630578a
open Go.ChangeShapes Go.WideShapes Go.ChangeAt Go.RowKit

def isD (c : UInt8) : Bool := decide (48 ≤ (c.toNat : Int)) && decide ((c.toNat : Int) ≤ 57)
def dg (l : List UInt8) : Bool := !l.isEmpty && l.all isD

theorem dg_false (s : ByteArray) (k : Nat) (h : k < s.size) (hd : isD s[k] = false) : dg s.data.toList = false := by
  unfold dg
  have hm : s[k] ∈ s.data.toList := by
    simp only [Array.mem_toList_iff]
    exact Array.getElem_mem _
  have : s.data.toList.all isD = false := by
    rw [List.all_eq_false]
    exact ⟨_, hm, by simp [hd]⟩
  simp [this]
theorem take_snoc (s : ByteArray) (k : Nat) (h : k < s.size) : s.data.toList.take (k + 1) = s.data.toList.take k ++ [s[k]] := by
  rw [List.take_succ_eq_append_getElem (by simpa using h)]; rfl

theorem all_snoc (s : ByteArray) (k : Nat) (h : k < s.size) (ha : (s.data.toList.take k).all isD = true) (hd : isD s[k] = true) : (s.data.toList.take (k + 1)).all isD = true := by
  rw [take_snoc s k h, List.all_append, ha]; simp [hd]

/-- The same, closed to the walk. -/
def dgs (s : ByteArray) : Bool := dg s.data.toList
def isDi (c : Int) : Bool := decide (48 ≤ c) && decide (c ≤ 57)

theorem isDigit_any (c : Int) (w : World) (h0 : 0 ≤ c) (h1 : c < 256) :
    Calls Try.prog 7 #[.int .u8 c] w fun e w' => e = .returned (.bool (isDi c)) ∧ w' = w := by
  go_enter Try.func7, Try.ntmps7
  go_wp2
  all_goals
    go_ret
    refine ⟨congrArg (fun b : Bool => Ending.returned (.bool b)) ?_, rfl⟩
    unfold isDi
    first | rfl | (symm; simp; omega)

set_option maxHeartbeats 400000 in
theorem digits_any (s : ByteArray) (w : World) (hs : s.size ≤ maxLen) :
    Calls Try.prog 6 #[.string s] w fun e w' => e = .returned (.bool (dgs s)) ∧ w' = w := by
  unfold maxLen at hs
  go_enter Try.func6, Try.ntmps6
  go_wp2
  go_loop [6] (fun i => ∃ k : Nat, k ≤ s.size ∧ i = .int .i64 k ∧ (s.data.toList.take k).all isD = true) (fun i => s.size - (intOf i).toNat)
  case atStart => exact ⟨0, Nat.zero_le _, rfl, rfl⟩
  case round =>
    obtain ⟨k, hk, rfl, ha⟩ := hrel
    have Ha : Hid ((s.data.toList.take k).all isD = true) := ha
    clear ha
    by_cases hlt : k < s.size
    · by_cases hd : 48 ≤ (s[k].toNat : Int) ∧ (s[k].toNat : Int) ≤ 57
      · obtain ⟨hd0, hd1⟩ := hd
        go_wp2
        go_round
        case rel => exact ⟨k + 1, by omega, by go_num, all_snoc s k hlt Ha.out (by simp [isD, hd0, hd1])⟩
        case measure => simp [intOf]; omega
      · have hf : dgs s = false := dg_false s k hlt (by simp [isD]; omega)
        go_wp2
        all_goals first | (exfalso; omega) | skip
        all_goals (go_ret; exact ⟨rfl, rfl⟩)
    · have hf : Hid ((!s.toList.isEmpty) = dgs s) := by
        have h1 := Ha.out
        rw [List.take_of_length_le (by simp; omega)] at h1
        unfold Hid dgs dg
        rw [h1, ByteArray.toList_eq]; simp
      go_wp2
      go_ret
      exact ⟨congrArg (fun b : Bool => Ending.returned (.bool b)) hf.out, rfl⟩
end Go.Proofs.Qxb6630578a
