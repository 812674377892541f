/-
  No cell of these rows narrows 'for every input' (looked for: loops, veiled, ifaces, maps, wideKeys, modest, calm, conditions, laid).
  DERIVED. THE GIVEN ROWS OF THIS SEAT. 2 by the template 'for every input the law returns true; each argument reads behind the call as it read before'; 0 by the template 'total and deterministic' (their statements: Qxb6630578aTotals.lean).
  GIVEN WITH THE SEED: the statements are not yours to turn. If you find one false, say at which input.
  Laid BY PROGRAM, IN A SANDBOX (cutbox-rows.mjs): the forced cells as the released guide's own fill.sh prints them over the translation 68e8064a0e395f93… (all of the seat's roots in one cut). By AI agents, Wed Nov 11 2026. No macro, syntax, notation, axiom, sorry.
-/
import Derived.Test.Qxb6630578aChecked
import GoSem.Claim
import GoSem.ClaimJoined
import GoSem.ClaimMapViews
import Derived.JoinedTies
import Derived.KernelRfl
namespace Go.Proofs.Qxb6630578a
/- THE CELL 'sum', in the pinned program and in every row, IS THE sha256 OF THE DUMP (.gsa) THAT Qxb6630578aProg.lean LOADS. Nothing in Lean hashes anything: it is a label: what it is worth is what the hold of that sum in a sandbox is worth. -/
noncomputable def Try.pinned : Pinned := { name := "qxb6630578a", sum := "68e8064a0e395f939eb18335f3a8173c98edc75b31bd450123f1292541dc016b", checked := Try.checked }
namespace Rows
def none {H : Type} : Left H := { results := [], args := [] }

/-- 'zzlaws_internal_decimaltext_b1.FnDigitsInsertOneByte': WHATEVER THE INPUT: true; the input reads as it did. -/
def fnDigitsInsertOneByteSpec : ChangeSpec := { name := "fnDigitsInsertOneByte", fn := fun _ => fun
  | [d1, d2, d3] => { results := [.lit (.bool true)], args := [d1, d2, d3] }
  | _ => none }
def fnDigitsInsertOneByteRow : OpenClaim := { program := "qxb6630578a", sum := "68e8064a0e395f939eb18335f3a8173c98edc75b31bd450123f1292541dc016b", func := "example.com/tuoguan/tuoguan/zzlaws_internal_decimaltext_b1.FnDigitsInsertOneByte", spec := "fnDigitsInsertOneByte", apart := false }
def FnDigitsInsertOneByteSaid : Prop := fnDigitsInsertOneByteRow.holds Try.pinned (OpenSpec.ofChange fnDigitsInsertOneByteSpec)

/-- ITS FALSE NEIGHBOUR: 'it returns false'. Refute it at one input. -/
def fnDigitsInsertOneByteWrong : ChangeSpec := { name := "fnDigitsInsertOneByte", fn := fun _ => fun
  | [d1, d2, d3] => { results := [.lit (.bool false)], args := [d1, d2, d3] }
  | _ => none }
def FnDigitsInsertOneByteWrongFalsely : Prop := fnDigitsInsertOneByteRow.holds Try.pinned (OpenSpec.ofChange fnDigitsInsertOneByteWrong)

/-- 'zzlaws_internal_decimaltext_b1.FnDigitsSplitAnyCut': WHATEVER THE INPUT: true; the input reads as it did. -/
def fnDigitsSplitAnyCutSpec : ChangeSpec := { name := "fnDigitsSplitAnyCut", fn := fun _ => fun
  | [d1, d2] => { results := [.lit (.bool true)], args := [d1, d2] }
  | _ => none }
def fnDigitsSplitAnyCutRow : OpenClaim := { program := "qxb6630578a", sum := "68e8064a0e395f939eb18335f3a8173c98edc75b31bd450123f1292541dc016b", func := "example.com/tuoguan/tuoguan/zzlaws_internal_decimaltext_b1.FnDigitsSplitAnyCut", spec := "fnDigitsSplitAnyCut", apart := false }
def FnDigitsSplitAnyCutSaid : Prop := fnDigitsSplitAnyCutRow.holds Try.pinned (OpenSpec.ofChange fnDigitsSplitAnyCutSpec)

/-- ITS FALSE NEIGHBOUR: 'it returns false'. Refute it at one input. -/
def fnDigitsSplitAnyCutWrong : ChangeSpec := { name := "fnDigitsSplitAnyCut", fn := fun _ => fun
  | [d1, d2] => { results := [.lit (.bool false)], args := [d1, d2] }
  | _ => none }
def FnDigitsSplitAnyCutWrongFalsely : Prop := fnDigitsSplitAnyCutRow.holds Try.pinned (OpenSpec.ofChange fnDigitsSplitAnyCutWrong)

end Rows
end Go.Proofs.Qxb6630578a
