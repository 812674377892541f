/-
  Cutting a text at every comma-and-space: plain lists; zzHasSep (11), zzSplitSep (12).
-/
import Derived.Test.Qxb6630621aList
namespace Go.Proofs.Qxb6630621a
open Go.ChangeShapes Go.WideShapes Go.ChangeAt Go.RowKit

def hasSep : List UInt8 → Bool
  | [] => false
  | a :: r => (a == 44 && r.head? == some 32) || hasSep r

/-- A byte ahead of the first piece. -/
def ahead (p : List UInt8) : List (List UInt8) → List (List UInt8)
  | [] => [p]
  | h :: t => (p ++ h) :: t
def splitN : Nat → List UInt8 → List (List UInt8)
  | 0, _ => [[]]
  | _ + 1, [] => [[]]
  | n + 1, a :: r => if a = 44 ∧ r.head? = some 32 then [] :: splitN n r.tail else ahead [a] (splitN n r)
/-- The pieces between the separators, left to right. -/
def split (l : List UInt8) : List (List UInt8) := splitN (l.length + 1) l

theorem splitN_more (l : List UInt8) : ∀ n m, l.length < n → l.length < m → splitN n l = splitN m l := by
  intro n
  induction n generalizing l with
  | zero => intro m h; omega
  | succ n ih =>
    intro m h h'
    cases m with
    | zero => omega
    | succ m =>
      cases l with
      | nil => rfl
      | cons a r =>
        simp only [List.length_cons] at h h'
        simp only [splitN]
        rw [ih r.tail m (by simp; omega) (by simp; omega), ih r m (by omega) (by omega)]
theorem split_nil : split [] = [[]] := rfl
theorem split_sep (r : List UInt8) : split (44 :: 32 :: r) = [] :: split r := by
  unfold split
  show splitN (r.length + 2 + 1) (44 :: 32 :: r) = _
  simp only [splitN, List.head?_cons, List.tail_cons, and_self, if_true]
  rw [splitN_more r (r.length + 2) (r.length + 1) (by omega) (by omega)]
theorem split_one (a : UInt8) (r : List UInt8) (h : ¬ (a = 44 ∧ r.head? = some 32)) : split (a :: r) = ahead [a] (split r) := by
  unfold split
  show splitN (r.length + 1 + 1) (a :: r) = _
  simp only [splitN, if_neg h]
theorem ahead_ahead (p q : List UInt8) (l : List (List UInt8)) : ahead p (ahead q l) = ahead (p ++ q) l := by
  cases l <;> simp [ahead]
theorem ahead_nil (l : List (List UInt8)) (h : l ≠ []) : ahead [] l = l := by
  cases l with
  | nil => exact absurd rfl h
  | cons a r => simp [ahead]
theorem splitN_ne : ∀ n l, splitN n l ≠ [] := by
  intro n
  induction n with
  | zero => intro l; simp [splitN]
  | succ n ih =>
    intro l
    cases l with
    | nil => simp [splitN]
    | cons a r =>
      simp only [splitN]
      split
      · simp
      · cases h : splitN n r with
        | nil => exact absurd h (ih r)
        | cons b t => simp [ahead]
theorem split_ne (l : List UInt8) : split l ≠ [] := splitN_ne _ _

theorem split_last (x : List UInt8) (h : hasSep x = false) : split x = [x] := by
  induction x with
  | nil => rfl
  | cons a r ih =>
    simp only [hasSep, Bool.or_eq_false_iff] at h
    rw [split_one a r (by simpa using h.1), ih h.2]
    simp [ahead]
theorem split_piece (x rest : List UInt8) (h : hasSep x = false) : split (x ++ 44 :: 32 :: rest) = x :: split rest := by
  induction x with
  | nil => exact split_sep rest
  | cons a r ih =>
    simp only [hasSep, Bool.or_eq_false_iff] at h
    have hn : ¬ (a = 44 ∧ (r ++ 44 :: 32 :: rest).head? = some 32) := by
      cases r with
      | nil => simp
      | cons b t => simpa using h.1
    rw [List.cons_append, split_one a _ hn, ih h.2]
    simp [ahead]
theorem split_join : ∀ (xs : List (List UInt8)), xs ≠ [] → (∀ x ∈ xs, hasSep x = false) → split (Lib.join xs [44, 32]) = xs := by
  intro xs
  induction xs with
  | nil => intro h; exact absurd rfl h
  | cons x r ih =>
    intro _ hs
    cases r with
    | nil => rw [Lib.join_one]; exact split_last x (hs x (by simp))
    | cons y t =>
      have e : Lib.join (x :: y :: t) [44, 32] = x ++ 44 :: 32 :: Lib.join (y :: t) [44, 32] := by
        have := join_append [44, 32] [x] (y :: t) (by simp) (by simp)
        rw [List.singleton_append] at this
        rw [this, Lib.join_one]; simp
      rw [e, split_piece x _ (hs x (by simp)), ih (by simp) (fun z hz => hs z (by simp [hz]))]
end Go.Proofs.Qxb6630621a
