/-
  The plain side and the callees' contracts: Unsizable (6), b1Earlier (7), b1Rank (9).
-/
import Derived.Test.Qxb6630538aRows
import Derived.WalkKit
import Derived.ProofKit
import Derived.OpenShut
import Derived.ShutString
import Derived.WalkSpells
namespace Go.Proofs.Qxb6630538a
open Go.ChangeShapes Go.WideShapes Go.ChangeAt Go.RowKit

/-- The ten reasons' texts by their rank; from 10 on the empty text. -/
def rtext : Nat → ByteArray
  | 0 => ⟨#[115, 116, 97, 116, 105, 99, 45, 112, 111, 100]⟩
  | 1 => ⟨#[119, 105, 110, 100, 111, 119, 115, 45, 112, 111, 100]⟩
  | 2 => ⟨#[110, 111, 100, 101, 45, 97, 108, 108, 111, 99, 97, 116, 97, 98, 108, 101, 45, 99, 108, 97, 105, 109, 115]⟩
  | 3 => ⟨#[114, 101, 115, 111, 117, 114, 99, 101, 45, 99, 108, 97, 105, 109, 115]⟩
  | 4 => ⟨#[111, 112, 116, 101, 100, 45, 111, 117, 116]⟩
  | 5 => ⟨#[104, 112, 97, 45, 117, 116, 105, 108, 105, 122, 97, 116, 105, 111, 110]⟩
  | 6 => ⟨#[113, 111, 115, 45, 103, 117, 97, 114, 97, 110, 116, 101, 101, 100]⟩
  | 7 => ⟨#[113, 111, 115, 45, 98, 101, 115, 116, 101, 102, 102, 111, 114, 116]⟩
  | 8 => ⟨#[112, 111, 100, 45, 108, 101, 118, 101, 108, 45, 114, 101, 115, 111, 117, 114, 99, 101, 115]⟩
  | 9 => ⟨#[122, 101, 114, 111, 45, 99, 112, 117, 45, 108, 105, 109, 105, 116]⟩
  | _ => ⟨#[]⟩

/-- 'Guaranteed', 'Burstable'. -/
def guar : ByteArray := ⟨#[71, 117, 97, 114, 97, 110, 116, 101, 101, 100]⟩
def burst : ByteArray := ⟨#[66, 117, 114, 115, 116, 97, 98, 108, 101]⟩

/-- The rank of the first reason that applies. -/
def uns (q : ByteArray) (m wi nc rc oo hpa pl zc : Bool) : Nat :=
  if m then 0 else if wi then 1 else if nc then 2 else if rc then 3 else if oo then 4 else if hpa then 5
  else if q.toList == [71, 117, 97, 114, 97, 110, 116, 101, 101, 100] then 6 else if q.toList == [66, 117, 114, 115, 116, 97, 98, 108, 101] then (if pl then 8 else if zc then 9 else 10) else 7

theorem uns_le (q : ByteArray) (m wi nc rc oo hpa pl zc : Bool) : uns q m wi nc rc oo hpa pl zc ≤ 10 := by
  unfold uns; repeat' split
  all_goals omega

set_option maxHeartbeats 1000000 in
theorem uns_any (q : ByteArray) (m wi nc rc oo hpa pl zc : Bool) (b : Nat) (w : World)
    (h6 : w.cell? ⟨b, 6, none⟩ = some (.bool m)) (h7 : w.cell? ⟨b, 7, none⟩ = some (.bool wi)) (h8 : w.cell? ⟨b, 8, none⟩ = some (.bool nc))
    (h9 : w.cell? ⟨b, 9, none⟩ = some (.bool rc)) (h3 : w.cell? ⟨b, 3, none⟩ = some (.bool oo)) (h12 : w.cell? ⟨b, 12, none⟩ = some (.bool hpa))
    (h4 : w.cell? ⟨b, 4, none⟩ = some (.string q)) (h10 : w.cell? ⟨b, 10, none⟩ = some (.bool pl)) (h11 : w.cell? ⟨b, 11, none⟩ = some (.bool zc)) :
    Calls Try.prog 6 #[.pointer (some ⟨b, 0, none⟩)] w fun e w' => e = .returned (.string (rtext (uns q m wi nc rc oo hpa pl zc))) ∧ w' = w := by
  go_enter Try.func6, Try.ntmps6
  go_wp2
  all_goals
    go_ret
    refine ⟨?_, rfl⟩
    simp_all [uns, rtext]

theorem rank_any (n : Nat) (a : ByteArray) (hn : n ≤ 10) (ha : a = rtext n) (w : World) :
    Calls Try.prog 9 #[.string a] w fun e w' => e = .returned (.int .i64 n) ∧ w' = w := by
  subst ha
  have hc : n = 0 ∨ n = 1 ∨ n = 2 ∨ n = 3 ∨ n = 4 ∨ n = 5 ∨ n = 6 ∨ n = 7 ∨ n = 8 ∨ n = 9 ∨ n = 10 := by omega
  rcases hc with rfl | rfl | rfl | rfl | rfl | rfl | rfl | rfl | rfl | rfl | rfl
  all_goals
    simp only [rtext]
    go_enter Try.func9, Try.ntmps9
    go_wp2
    go_ret
    exact ⟨rfl, rfl⟩

theorem earlier_any (n k : Nat) (a b : ByteArray) (hn : n ≤ 10) (hk : k ≤ 10) (ha : a = rtext n) (hb : b = rtext k) (w : World) :
    Calls Try.prog 7 #[.string a, .string b] w fun e w' => e = .returned (.string (rtext (if k < n then k else n))) ∧ w' = w := by
  have Ha : Hid (a = rtext n) := ha
  have Hb : Hid (b = rtext k) := hb
  clear ha hb
  by_cases h : k < n
  · rw [if_pos h]
    go_enter Try.func7, Try.ntmps7
    go_wp2_with fail
    refine (rank_any k b hk Hb.out _).mono ?_
    rintro e w' ⟨rfl, rfl⟩
    go_wp2_with fail
    refine (rank_any n a hn Ha.out _).mono ?_
    rintro e w' ⟨rfl, rfl⟩
    go_wp2_with fail
    go_ret
    exact ⟨by rw [Hb.out]; rfl, rfl⟩
  · rw [if_neg h]
    go_enter Try.func7, Try.ntmps7
    go_wp2_with fail
    refine (rank_any k b hk Hb.out _).mono ?_
    rintro e w' ⟨rfl, rfl⟩
    go_wp2_with fail
    refine (rank_any n a hn Ha.out _).mono ?_
    rintro e w' ⟨rfl, rfl⟩
    go_wp2_with fail
    go_ret
    exact ⟨by rw [Ha.out]; rfl, rfl⟩
end Go.Proofs.Qxb6630538a
