/-
  zzHasSep (11), zzSplitSep (12): the walks.
-/
import Derived.Test.Qxb6630621aSplit
namespace Go.Proofs.Qxb6630621a
open Go.ChangeShapes Go.WideShapes Go.ChangeAt Go.RowKit

theorem drop_two (s : ByteArray) (k : Nat) (h : k + 1 < s.size) : s.data.toList.drop k = s[k] :: s[k + 1] :: s.data.toList.drop (k + 2) := by
  have h1 : k < s.data.toList.length := by simp; exact Nat.lt_of_succ_lt h
  have h2 : k + 1 < s.data.toList.length := by simpa using h
  rw [List.drop_eq_getElem_cons h1, List.drop_eq_getElem_cons h2]
  simp [ByteArray.getElem_eq_getElem_data]
theorem byte_eq (c : UInt8) (n : Nat) (hn : n < 256) : ((c.toNat : Int) == (n : Int)) = (c == UInt8.ofNat n) := by
  rw [Bool.eq_iff_iff]
  simp only [beq_iff_eq]
  constructor
  · intro h
    apply UInt8.toNat_inj.1
    simp [Nat.mod_eq_of_lt hn]; omega
  · rintro rfl
    simp [Nat.mod_eq_of_lt hn]
theorem short_no (l : List UInt8) (h : l.length ≤ 1) : hasSep l = false := by
  match l, h with
  | [], _ => rfl
  | [a], _ => simp [hasSep]
def hs (s : ByteArray) : Bool := hasSep s.data.toList

set_option maxHeartbeats 400000 in
theorem hasSep11 (s : ByteArray) (w : World) (hsz : s.size ≤ 1048576) :
    Calls Try.prog 11 #[.string s] w fun e w' => e = .returned (.bool (hs s)) ∧ w' = w := by

  go_enter Try.func11, Try.ntmps11
  go_wp2
  go_loop [3] (fun i => ∃ k : Nat, k ≤ s.size ∧ i = .int .i64 k ∧ hasSep (s.data.toList.drop k) = hs s) (fun i => s.size - (intOf i).toNat)
  case atStart => exact ⟨0, Nat.zero_le _, rfl, rfl⟩
  case round =>
    obtain ⟨k, hk, rfl, hd⟩ := hrel
    have HD : Hid (hasSep (s.data.toList.drop k) = hs s) := hd
    clear hd
    by_cases hlt : k + 1 < s.size
    · have HE : Hid (s.data.toList.drop k = s[k] :: s[k + 1] :: s.data.toList.drop (k + 2)) := drop_two s k hlt
      have b1 := byte_eq s[k] 44 (by omega)
      have b2 := byte_eq s[k + 1] 32 (by omega)
      have hlt0 : k < s.size := by omega
      cases h1 : (s[k] == 44) with
      | false =>
        have b1' : ((s[k].toNat : Int) == 44) = false := b1.trans h1
        have HN : Hid (hasSep (s.data.toList.drop (k + 1)) = hs s) := by
          have e : s.data.toList.drop (k + 1) = s[k + 1] :: s.data.toList.drop (k + 2) := by
            have := congrArg List.tail HE.out; simpa using this
          have h := HD.out
          rw [HE.out] at h
          unfold Hid
          rw [e, ← h]; simp [hasSep, h1]
        clear b1 b2 h1
        go_wp2
        go_round
        case rel => exact ⟨k + 1, by omega, by go_num, HN.out⟩
        case measure => simp [intOf]; omega
      | true =>
        have b1' : ((s[k].toNat : Int) == 44) = true := b1.trans h1
        cases h2 : (s[k + 1] == 32) with
        | false =>
          have b2' : ((s[k + 1].toNat : Int) == 32) = false := b2.trans h2
          have HN : Hid (hasSep (s.data.toList.drop (k + 1)) = hs s) := by
            have e : s.data.toList.drop (k + 1) = s[k + 1] :: s.data.toList.drop (k + 2) := by
              have := congrArg List.tail HE.out; simpa using this
            have h := HD.out
            rw [HE.out] at h
            unfold Hid
            rw [e, ← h]; simp [hasSep, h2]
          clear b1 b2 h1 h2
          go_wp2
          go_round
          case rel => exact ⟨k + 1, by omega, by go_num, HN.out⟩
          case measure => simp [intOf]; omega
        | true =>
          have b2' : ((s[k + 1].toNat : Int) == 32) = true := b2.trans h2
          have HN : Hid (hs s = true) := by
            have h := HD.out
            rw [HE.out] at h
            unfold Hid
            rw [← h]; simp [hasSep, h1, h2]
          clear b1 b2 h1 h2
          go_wp2
          go_ret
          exact ⟨by rw [HN.out]; rfl, rfl⟩
    · have HN : Hid (hs s = false) := by
        have h := HD.out
        unfold Hid
        rw [← h]; exact short_no _ (by simp; omega)
      go_wp2
      go_ret
      exact ⟨by rw [HN.out]; rfl, rfl⟩

theorem ext_mid (s : ByteArray) (a b : Nat) : (s.extract a b).data.toList = (s.data.toList.take b).drop a := by
  rw [ByteArray.data_extract, Array.toList_extract]
  simp [List.extract, List.drop_take]
theorem ahead_step (s : ByteArray) (st k : Nat) (hst : st ≤ k) (hk : k < s.size) (L : List (List UInt8)) :
    ahead ((s.data.toList.take k).drop st) (ahead [s[k]] L) = ahead ((s.data.toList.take (k + 1)).drop st) L := by
  have hk' : k < s.data.toList.length := by simpa using hk
  rw [ahead_ahead, List.take_succ_eq_append_getElem hk', List.drop_append_of_le_length (by rw [List.length_take]; omega)]
  simp [ByteArray.getElem_eq_getElem_data]
theorem split_short (l : List UInt8) (h : l.length ≤ 1) : split l = [l] := by
  match l, h with
  | [], _ => rfl
  | [a], _ => rw [split_one a [] (by simp)]; rfl

/-- Where the loop stands: the pieces so far, the piece begun, what is left. -/
def Inv (s : ByteArray) (st k : Nat) (ps : List ByteArray) : Prop :=
  st ≤ k ∧ k ≤ s.size ∧ ps.length ≤ k ∧ ps.map (·.data.toList) ++ ahead ((s.data.toList.take k).drop st) (split (s.data.toList.drop k)) = split s.data.toList

theorem inv_start (s : ByteArray) : Inv s 0 0 [] := ⟨Nat.le_refl _, Nat.zero_le _, Nat.zero_le _, by simp [ahead_nil _ (split_ne _)]⟩
theorem inv_go {s : ByteArray} {st k : Nat} {ps : List ByteArray} (h : Inv s st k ps) (hk : k + 1 < s.size) (hn : (s[k] == 44) = false ∨ (s[k + 1] == 32) = false) : Inv s st (k + 1) ps := by
  obtain ⟨h1, h2, h3, h4⟩ := h
  refine ⟨by omega, by omega, by omega, ?_⟩
  have e := drop_two s k hk
  have e1 : s.data.toList.drop (k + 1) = s[k + 1] :: s.data.toList.drop (k + 2) := by
    have := congrArg List.tail e; simpa using this
  rw [e, split_one _ _ (by rcases hn with h | h <;> simp_all), ahead_step s st k h1 (by omega), ← e1] at h4
  exact h4
theorem inv_cut {s : ByteArray} {st k : Nat} {ps : List ByteArray} (h : Inv s st k ps) (hk : k + 1 < s.size) (h44 : (s[k] == 44) = true) (h32 : (s[k + 1] == 32) = true) : Inv s (k + 2) (k + 2) (ps ++ [s.extract st k]) := by
  obtain ⟨h1, h2, h3, h4⟩ := h
  refine ⟨Nat.le_refl _, by omega, by simp; omega, ?_⟩
  have e := drop_two s k hk
  rw [beq_iff_eq.1 h44, beq_iff_eq.1 h32] at e
  rw [e, split_sep] at h4
  rw [← h4]
  have z : (s.data.toList.take (k + 2)).drop (k + 2) = [] := by
    apply List.drop_of_length_le; rw [List.length_take]; omega
  rw [z, ahead_nil _ (split_ne _)]
  simp only [List.map_append, List.map_cons, List.map_nil, ext_mid, List.append_assoc, List.singleton_append, ahead, List.append_nil]
theorem inv_end {s : ByteArray} {st k : Nat} {ps : List ByteArray} (h : Inv s st k ps) (hk : ¬ k + 1 < s.size) : (ps ++ [s.extract st s.size]).map (·.data.toList) = split s.data.toList := by
  obtain ⟨h1, h2, h3, h4⟩ := h
  rw [← h4, split_short (s.data.toList.drop k) (by simp; omega)]
  simp only [List.map_append, List.map_cons, List.map_nil, ext_mid, ahead]
  congr 2
  have e : s.data.toList.take s.size = s.data.toList := List.take_of_length_le (by simp)
  rw [e]
  conv => lhs; rw [← List.take_append_drop k s.data.toList]
  rw [List.drop_append_of_le_length (by rw [List.length_take]; simp; omega)]

theorem one_cell (w : World) (v : Value) (t : TypeId) : ∀ j u, [v][j]? = some u → (w.alloc (.cells #[v] t)).cell? ((⟨w.heap.size, 0, none⟩ : Addr).add j) = some u := by
  intro j u hu
  match j, hu with
  | 0, hu => simp at hu; subst hu; simp [Addr.add]

theorem pieces_of {w : World} {B : Nat} {v : Value} {ps : List ByteArray} (h : w.ownsRow B 9 1 v ps.length (ps.map Value.string)) (h0 : 0 < ps.length) :
    ∃ g cap, v = .slice (some ⟨g, 0, none⟩) ps.length cap ∧ Strs w g 0 ps ∧ B ≤ g ∧ g < w.heap.size := by
  have h' := h
  rcases h.2 with ⟨_, h1⟩ | ⟨g, cap, cur, rfl, h2, h3, h4⟩
  · omega
  · refine ⟨g, cap, rfl, ?_, h2, (h'.lt g rfl).2⟩
    intro j hj
    rw [Nat.zero_add, h'.cellAt j (by omega), List.getElem?_map]
    simp [List.getD, hj]

set_option maxHeartbeats 1000000 in
theorem splitSep12 (s : ByteArray) (w : World) (hsz : s.size ≤ 2000000) :
    Calls Try.prog 12 #[.string s] w fun e w' => ∃ (ps : List ByteArray) (g cap : Nat), e = .returned (.slice (some ⟨g, 0, none⟩) ps.length cap) ∧ ps.map (·.data.toList) = split s.data.toList ∧ Strs w' g 0 ps ∧ w.heap.size ≤ g ∧ g < w'.heap.size ∧ Below w.heap.size w w' := by
  obtain ⟨i0, hi0, hz0, hz1, hz2⟩ := info_parts Try.info9
  go_enter Try.func12, Try.ntmps12
  go_wp2
  go_loopw [3, 4, 5] (fun v a i wr => ∃ (st k : Nat) (ps : List ByteArray), k ≤ s.size ∧ st ≤ k ∧ a = .int .i64 st ∧ i = .int .i64 k ∧ Inv s st k ps ∧
      wr.ownsRow w.heap.size 9 1 v ps.length (ps.map Value.string) ∧ Below w.heap.size w wr) (fun _ _ i _ => s.size - (intOf i).toNat)
  case atStart => exact ⟨0, 0, [], Nat.zero_le _, Nat.le_refl _, rfl, rfl, inv_start s, World.ownsRow_nil _ _ _ _, Below.refl _ _⟩
  case round =>
    obtain ⟨st, k, ps, hk, hst, rfl, rfl, hinv, hown, hnx⟩ := hrel
    have HI : Hid (Inv s st k ps) := hinv
    have hpl : ps.length ≤ k := hinv.2.2.1
    have hsz2 := hnx.size
    clear hinv
    by_cases hlt : k + 1 < s.size
    · have b1 := byte_eq s[k] 44 (by omega)
      have b2 := byte_eq s[k + 1] 32 (by omega)
      have hlt0 : k < s.size := by omega
      cases h1 : (s[k] == 44) with
      | false =>
        have b1' : ((s[k].toNat : Int) == 44) = false := b1.trans h1
        have HN : Hid (Inv s st (k + 1) ps) := inv_go HI.out hlt (.inl h1)
        clear b1 b2 h1
        go_wp2
        go_roundw
        case rel => exact ⟨st, k + 1, ps, by omega, by omega, rfl, by go_num, HN.out, hown, hnx⟩
        case measure => simp [intOf]; omega
      | true =>
        have b1' : ((s[k].toNat : Int) == 44) = true := b1.trans h1
        cases h2 : (s[k + 1] == 32) with
        | false =>
          have b2' : ((s[k + 1].toNat : Int) == 32) = false := b2.trans h2
          have HN : Hid (Inv s st (k + 1) ps) := inv_go HI.out hlt (.inr h2)
          clear b1 b2 h1 h2
          go_wp2
          go_roundw
          case rel => exact ⟨st, k + 1, ps, by omega, by omega, rfl, by go_num, HN.out, hown, hnx⟩
          case measure => simp [intOf]; omega
        | true =>
          have b2' : ((s[k + 1].toNat : Int) == 32) = true := b2.trans h2
          have HN : Hid (Inv s (k + 2) (k + 2) (ps ++ [s.extract st k])) := inv_cut HI.out hlt h1 h2
          clear b1 b2 h1 h2
          go_wp2_with (at_builtin; refine wpList_append_own _ rfl _ _ 22 rfl w.heap.size 9 i0 (.string ⟨#[]⟩) 1 16 Try.underlying22 hi0 hz0 hz1 hz2 rfl (by decide) _ _ _ rfl (hown.alloc _) ⟨wr.heap.size, 0, none⟩ 1 1 [.string (s.extract st k)] rfl rfl (one_cell _ _ _) (by intro u hu; simp at hu; subst hu; rfl) (by unfold maxLen; omega) (by omega) (by simp; omega) ?_; intro v' w1 hown1 hgrow1 _)
          have hown2 : w1.ownsRow w.heap.size 9 1 v' (ps ++ [s.extract st k]).length ((ps ++ [s.extract st k]).map Value.string) := by
            simpa using hown1
          have hnx2 : Below w.heap.size w w1 := (hnx.alloc hsz2 _).grown hgrow1 (by simp; omega) (fun j hj => (hown.lt j hj).1)
          clear hown1 hgrow1 hown
          go_wp2
          go_roundw
          case rel => exact ⟨k + 2, k + 2, ps ++ [s.extract st k], by omega, by omega, by go_num, by go_num, HN.out, hown2, hnx2⟩
          case measure => simp [intOf]; omega
    · have HN : Hid ((ps ++ [s.extract st s.size]).map (·.data.toList) = split s.data.toList) := inv_end HI.out hlt
      go_wp2_with (at_builtin; refine wpList_append_own _ rfl _ _ 22 rfl w.heap.size 9 i0 (.string ⟨#[]⟩) 1 16 Try.underlying22 hi0 hz0 hz1 hz2 rfl (by decide) _ _ _ rfl (hown.alloc _) ⟨wr.heap.size, 0, none⟩ 1 1 [.string (s.extract st s.size)] rfl rfl (one_cell _ _ _) (by intro u hu; simp at hu; subst hu; rfl) (by unfold maxLen; omega) (by omega) (by simp; omega) ?_; intro v' w1 hown1 hgrow1 _)
      have hown2 : w1.ownsRow w.heap.size 9 1 v' (ps ++ [s.extract st s.size]).length ((ps ++ [s.extract st s.size]).map Value.string) := by
        simpa using hown1
      have hnx2 : Below w.heap.size w w1 := (hnx.alloc hsz2 _).grown hgrow1 (by simp; omega) (fun j hj => (hown.lt j hj).1)
      have hfin := pieces_of hown2 (by simp)
      obtain ⟨g, cap, rfl, hst2, hg1, hg2⟩ := hfin
      clear hown1 hgrow1 hown hown2
      go_wp2
      go_ret
      exact ⟨ps ++ [s.extract st s.size], g, cap, rfl, HN.out, hst2, hg1, hg2, hnx2⟩
end Go.Proofs.Qxb6630621a
