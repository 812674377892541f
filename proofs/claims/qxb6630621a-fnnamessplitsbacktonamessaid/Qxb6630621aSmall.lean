/-
  The guards' contracts: zzBytes (5, 10), zzSizeOK (6), zzDistinct (7).
-/
import Derived.Test.Qxb6630621aRows
import Derived.WalkKit
import Derived.ProofKit
import Derived.OpenShut
import Derived.ShutString
import Derived.WalkSpells
import Derived.Deep.QuietTactic
import Derived.BigQuiet
import Derived.Below
namespace Go.Proofs.Qxb6630621a
open Go.ChangeShapes Go.WideShapes Go.ChangeAt Go.RowKit

/-- The strings of a slice in memory. -/
def Strs (w : World) (b off : Nat) (xs : List ByteArray) : Prop := ∀ j, j < xs.length → w.cell? ⟨b, off + j, none⟩ = some (.string (xs.getD j ByteArray.empty))
def Short (xs : List ByteArray) : Prop := ∀ s ∈ xs, s.size ≤ maxLen
def sumSz : List ByteArray → Nat
  | [] => 0
  | s :: r => s.size + sumSz r
/-- Some bool came back. -/
def IsBool (e : Ending) : Prop := ∃ r : Bool, e = .returned (.bool r)
/-- What zzBytes says. -/
def BytesR (xs : List ByteArray) (e : Ending) : Prop := ∃ r : Bool, e = .returned (.bool r) ∧ (r = true → xs.length + sumSz xs ≤ 1048576)
/-- What zzSizeOK says. -/
def SizeR (xs : List ByteArray) (e : Ending) : Prop := ∃ r : Bool, e = .returned (.bool r) ∧ (r = true → xs.length ≤ 4096 ∧ 8 * xs.length + sumSz xs ≤ 1048576)

theorem short_at {xs : List ByteArray} (h : Short xs) (j : Nat) : (xs.getD j ByteArray.empty).size ≤ 2 ^ 63 - 1 := by
  by_cases hj : j < xs.length
  · have := h (xs.getD j ByteArray.empty) (by simp [List.getD, hj])
    simpa [maxLen] using this
  · simp [List.getD, List.getElem?_eq_none (Nat.le_of_not_lt hj)]

theorem sumSz_append (l m : List ByteArray) : sumSz (l ++ m) = sumSz l + sumSz m := by
  induction l with
  | nil => simp [sumSz]
  | cons a r ih => simp [sumSz, ih]; omega
theorem sumSz_snoc (xs : List ByteArray) (k : Nat) (h : k < xs.length) : sumSz (xs.take (k + 1)) = sumSz (xs.take k) + (xs.getD k ByteArray.empty).size := by
  rw [List.take_succ_eq_append_getElem h, sumSz_append]
  simp [List.getD, h, sumSz]
theorem sumSz_at (xs : List ByteArray) (k : Nat) (h : k < xs.length) : (xs.getD k ByteArray.empty).size ≤ sumSz xs := by
  have h1 := sumSz_snoc xs k h
  have h2 := sumSz_append (xs.take (k + 1)) (xs.drop (k + 1))
  rw [List.take_append_drop] at h2
  omega

set_option maxHeartbeats 400000 in
theorem bytes5 (b off c : Nat) (xs : List ByteArray) (kk : Int) (w : World) (hc : Strs w b off xs) (hs : Short xs) (hn : xs.length ≤ maxLen) :
    Calls Try.prog 5 #[.slice (some ⟨b, off, none⟩) xs.length c, .int .i64 kk] w fun e w' => BytesR xs e ∧ w' = w := by
  unfold maxLen at hn
  have HC : Hid (Strs w b off xs) := hc
  clear hc
  by_cases hbig : 1048576 < xs.length
  · go_enter Try.func5, Try.ntmps5
    go_wp2
    go_ret
    exact ⟨⟨false, rfl, by simp⟩, rfl⟩
  go_enter Try.func5, Try.ntmps5
  go_wp2
  go_loop [5, 6] (fun n i => ∃ k m : Nat, k ≤ xs.length ∧ m ≤ 1048576 ∧ i = .int .i64 k ∧ n = .int .i64 m ∧ m = xs.length + sumSz (xs.take k)) (fun _ i => xs.length - (intOf i).toNat)
  case atStart => exact ⟨0, xs.length, Nat.zero_le _, by omega, rfl, rfl, by simp [sumSz]⟩
  case round =>
    obtain ⟨k, m, hk, hm, rfl, rfl, hsum⟩ := hrel
    have HS : Hid (m = xs.length + sumSz (xs.take k)) := hsum
    clear hsum
    by_cases hlt : k < xs.length
    · have hcell := HC.out k hlt
      have hsz := short_at hs k
      have HN : Hid (sumSz (xs.take (k + 1)) = sumSz (xs.take k) + (xs.getD k ByteArray.empty).size) := sumSz_snoc xs k hlt
      generalize xs.getD k ByteArray.empty = s at *
      go_wp2
      · go_ret
        exact ⟨⟨false, rfl, by simp⟩, rfl⟩
      · go_ret
        exact ⟨⟨false, rfl, by simp⟩, rfl⟩
      · go_round
        case rel => exact ⟨k + 1, m + s.size, by omega, by omega, by go_num, by go_num, by rw [HN.out]; have := HS.out; omega⟩
        case measure => simp [intOf]; omega
    · go_wp2
      go_ret
      refine ⟨⟨true, rfl, fun _ => ?_⟩, rfl⟩
      have h := HS.out
      rw [List.take_of_length_le (by omega)] at h
      omega

theorem bytes5_none (a : Option Addr) (c : Nat) (kk : Int) (w : World) :
    Calls Try.prog 5 #[.slice a 0 c, .int .i64 kk] w fun e w' => IsBool e ∧ w' = w := by
  go_enter Try.func5, Try.ntmps5
  go_wp2
  go_loop [6] (fun i => i = .int .i64 0) (fun _ => 0)
  case atStart => exact rfl
  case round =>
    subst hrel
    go_wp2
    go_ret
    exact ⟨⟨_, rfl⟩, rfl⟩

set_option maxHeartbeats 400000 in
theorem bytes10 (b off c : Nat) (xs : List ByteArray) (w : World) (hc : Strs w b off xs) (hs : Short xs) (hn : xs.length ≤ maxLen) :
    Calls Try.prog 10 #[.slice (some ⟨b, off, none⟩) xs.length c] w fun e w' => BytesR xs e ∧ w' = w := by
  unfold maxLen at hn
  have HC : Hid (Strs w b off xs) := hc
  clear hc
  by_cases hbig : 1048576 < xs.length
  · go_enter Try.func10, Try.ntmps10
    go_wp2
    go_ret
    exact ⟨⟨false, rfl, by simp⟩, rfl⟩
  go_enter Try.func10, Try.ntmps10
  go_wp2
  go_loop [3, 4] (fun n i => ∃ k m : Nat, k ≤ xs.length ∧ m ≤ 1048576 ∧ i = .int .i64 k ∧ n = .int .i64 m ∧ m = xs.length + sumSz (xs.take k)) (fun _ i => xs.length - (intOf i).toNat)
  case atStart => exact ⟨0, xs.length, Nat.zero_le _, by omega, rfl, rfl, by simp [sumSz]⟩
  case round =>
    obtain ⟨k, m, hk, hm, rfl, rfl, hsum⟩ := hrel
    have HS : Hid (m = xs.length + sumSz (xs.take k)) := hsum
    clear hsum
    by_cases hlt : k < xs.length
    · have hcell := HC.out k hlt
      have hsz := short_at hs k
      have HN : Hid (sumSz (xs.take (k + 1)) = sumSz (xs.take k) + (xs.getD k ByteArray.empty).size) := sumSz_snoc xs k hlt
      generalize xs.getD k ByteArray.empty = s at *
      go_wp2
      · go_ret
        exact ⟨⟨false, rfl, by simp⟩, rfl⟩
      · go_ret
        exact ⟨⟨false, rfl, by simp⟩, rfl⟩
      · go_round
        case rel => exact ⟨k + 1, m + s.size, by omega, by omega, by go_num, by go_num, by rw [HN.out]; have := HS.out; omega⟩
        case measure => simp [intOf]; omega
    · go_wp2
      go_ret
      refine ⟨⟨true, rfl, fun _ => ?_⟩, rfl⟩
      have h := HS.out
      rw [List.take_of_length_le (by omega)] at h
      omega

theorem bytes10_none (a : Option Addr) (c : Nat) (w : World) :
    Calls Try.prog 10 #[.slice a 0 c] w fun e w' => IsBool e ∧ w' = w := by
  go_enter Try.func10, Try.ntmps10
  go_wp2
  go_loop [4] (fun i => i = .int .i64 0) (fun _ => 0)
  case atStart => exact rfl
  case round =>
    subst hrel
    go_wp2
    go_ret
    exact ⟨⟨_, rfl⟩, rfl⟩

set_option maxHeartbeats 400000 in
theorem size6 (b off c : Nat) (xs : List ByteArray) (w : World) (hc : Strs w b off xs) (hs : sumSz xs ≤ 1048576) (hn : xs.length ≤ maxLen) :
    Calls Try.prog 6 #[.slice (some ⟨b, off, none⟩) xs.length c] w fun e w' => SizeR xs e ∧ w' = w := by
  unfold maxLen at hn
  have HC : Hid (Strs w b off xs) := hc
  clear hc
  by_cases hbig : 4096 < xs.length
  · go_enter Try.func6, Try.ntmps6
    go_wp2
    go_ret
    exact ⟨⟨false, rfl, by simp⟩, rfl⟩
  go_enter Try.func6, Try.ntmps6
  go_wp2
  go_loop [3, 4] (fun n i => ∃ k m : Nat, k ≤ xs.length ∧ m ≤ 1048576 ∧ i = .int .i64 k ∧ n = .int .i64 m ∧ m = 8 * xs.length + sumSz (xs.take k)) (fun _ i => xs.length - (intOf i).toNat)
  case atStart => exact ⟨0, 8 * xs.length, Nat.zero_le _, by omega, rfl, by go_num, by simp [sumSz]⟩
  case round =>
    obtain ⟨k, m, hk, hm, rfl, rfl, hsum⟩ := hrel
    have HS : Hid (m = 8 * xs.length + sumSz (xs.take k)) := hsum
    clear hsum
    by_cases hlt : k < xs.length
    · have hcell := HC.out k hlt
      have hsz : (xs.getD k ByteArray.empty).size ≤ 1048576 := Nat.le_trans (sumSz_at xs k hlt) hs
      have HN : Hid (sumSz (xs.take (k + 1)) = sumSz (xs.take k) + (xs.getD k ByteArray.empty).size) := sumSz_snoc xs k hlt
      generalize xs.getD k ByteArray.empty = s at *
      go_wp2
      · go_ret
        exact ⟨⟨false, rfl, by simp⟩, rfl⟩
      · go_round
        case rel => exact ⟨k + 1, m + s.size, by omega, by omega, by go_num, by go_num, by rw [HN.out]; have := HS.out; omega⟩
        case measure => simp [intOf]; omega
    · go_wp2
      go_ret
      refine ⟨⟨true, rfl, fun _ => ⟨by omega, ?_⟩⟩, rfl⟩
      have h := HS.out
      rw [List.take_of_length_le (by omega)] at h
      omega

theorem size6_none (a : Option Addr) (c : Nat) (w : World) :
    Calls Try.prog 6 #[.slice a 0 c] w fun e w' => e = .returned (.bool true) ∧ w' = w := by
  go_enter Try.func6, Try.ntmps6
  go_wp2
  go_loop [4] (fun i => i = .int .i64 0) (fun _ => 0)
  case atStart => exact rfl
  case round =>
    subst hrel
    go_wp2
    go_ret
    exact ⟨rfl, rfl⟩

theorem drewN_add (w : World) (a b : Nat) : (w.drewN a).drewN b = w.drewN (a + b) := by
  simp [World.drewN, Nat.add_assoc]

theorem distinct7_none (a : Option Addr) (c : Nat) (w : World) :
    Calls Try.prog 7 #[.slice a 0 c] w fun e w' => e = .returned (.bool true) ∧ w' = w := by
  go_enter Try.func7, Try.ntmps7
  go_wp2
  go_loop [3] (fun i => i = .int .i64 0) (fun _ => 0)
  case atStart => exact rfl
  case round =>
    subst hrel
    go_wp2
    go_ret
    exact ⟨rfl, rfl⟩

set_option maxHeartbeats 1000000 in
/-- zzDistinct: some bool; it only reads (it draws). -/
theorem distinct7 (b off c : Nat) (xs : List ByteArray) (w : World) (hc : Strs w b off xs) (hn : xs.length ≤ 4096) :
    Calls Try.prog 7 #[.slice (some ⟨b, off, none⟩) xs.length c] w fun e w' => IsBool e ∧ ∃ n, w' = w.drewN n := by
  have HC : Hid (Strs w b off xs) := hc
  clear hc
  go_enter Try.func7, Try.ntmps7
  go_wp2
  go_loopw [3] (fun i wr => ∃ k q : Nat, k ≤ xs.length ∧ i = .int .i64 k ∧ wr = w.drewN q) (fun i _ => xs.length - (intOf i).toNat)
  case atStart => exact ⟨0, 0, Nat.zero_le _, rfl, rfl⟩
  case round =>
    obtain ⟨k, q, hk, rfl, rfl⟩ := hrel
    by_cases hlt : k < xs.length
    · have hcell := HC.out k hlt
      have hlt' : (k : Int) < (xs.length : Int) := by omega
      generalize xs.getD k ByteArray.empty = s at *
      go_wp2
      go_loopw [4] (fun i wr => ∃ k2 q : Nat, k2 ≤ xs.length ∧ i = .int .i64 k2 ∧ wr = w.drewN q) (fun i _ => xs.length - (intOf i).toNat)
      case atStart => exact ⟨k + 1, q, by omega, by go_num, rfl⟩
      case round =>
        obtain ⟨k2, q2, hk2, rfl, rfl⟩ := hrel
        by_cases hlt2 : k2 < xs.length
        · have hcell2 := HC.out k2 hlt2
          have hlt2' : (k2 : Int) < (xs.length : Int) := by omega
          generalize xs.getD k2 ByteArray.empty = s2 at *
          go_wp2
          go_quiet (fail)
          go_wp2
          · go_ret
            exact ⟨⟨_, rfl⟩, ⟨_, drewN_add _ _ _⟩⟩
          · go_roundw
            case rel => exact ⟨k2 + 1, q2 + nq, by omega, by go_num, rfl⟩
            case measure => simp [intOf]; omega
        · go_wp2
          go_roundw
          case rel => exact ⟨k + 1, q2, by omega, by go_num, rfl⟩
          case measure => simp [intOf]; omega
    · go_wp2
      go_ret
      exact ⟨⟨_, rfl⟩, ⟨_, rfl⟩⟩
end Go.Proofs.Qxb6630621a
