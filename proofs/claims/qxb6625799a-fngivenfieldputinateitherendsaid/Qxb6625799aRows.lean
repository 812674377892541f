/-
  No cell of these rows narrows 'for every input' (looked for: loops, veiled, ifaces, maps, wideKeys, modest, calm, conditions, laid).
  DERIVED. THE GIVEN ROWS OF THIS SEAT. 2 by the template 'for every input the law returns true; each argument reads behind the call as it read before'; 0 by the template 'total and deterministic' (their statements: Qxb6625799aTotals.lean).
  GIVEN WITH THE SEED: the statements are not yours to turn. If you find one false, say at which input.
  Laid BY PROGRAM, IN A SANDBOX (cutbox-rows.mjs): the forced cells as the released guide's own fill.sh prints them over the translation 209bc279bda93d2a… (all of the seat's roots in one cut). By AI agents, Wed Nov 11 2026. No macro, syntax, notation, axiom, sorry.
-/
import Derived.Test.Qxb6625799aChecked
import GoSem.Claim
import GoSem.ClaimJoined
import GoSem.ClaimMapViews
import Derived.JoinedTies
import Derived.KernelRfl
namespace Go.Proofs.Qxb6625799a
/- THE CELL 'sum', in the pinned program and in every row, IS THE sha256 OF THE DUMP (.gsa) THAT Qxb6625799aProg.lean LOADS. Nothing in Lean hashes anything: it is a label: what it is worth is what the hold of that sum in a sandbox is worth. -/
noncomputable def Try.pinned : Pinned := { name := "qxb6625799a", sum := "209bc279bda93d2a3a42842a270b03e751c7d8e405ad1192e20ba695d6732c04", checked := Try.checked }
namespace Rows
def none {H : Type} : Left H := { results := [], args := [] }

/-- 'zzlaws_internal_record_b1.FnGivenFieldPutInAtEitherEnd': WHATEVER THE INPUT: true; the input reads as it did. -/
def fnGivenFieldPutInAtEitherEndSpec : ChangeSpec := { name := "fnGivenFieldPutInAtEitherEnd", fn := fun _ => fun
  | [d1, d2, d3, d4, d5, d6] => { results := [.lit (.bool true)], args := [d1, d2, d3, d4, d5, d6] }
  | _ => none }
def fnGivenFieldPutInAtEitherEndRow : OpenClaim := { program := "qxb6625799a", sum := "209bc279bda93d2a3a42842a270b03e751c7d8e405ad1192e20ba695d6732c04", func := "example.com/vestline/vestline/zzlaws_internal_record_b1.FnGivenFieldPutInAtEitherEnd", spec := "fnGivenFieldPutInAtEitherEnd", apart := false }
def FnGivenFieldPutInAtEitherEndSaid : Prop := fnGivenFieldPutInAtEitherEndRow.holds Try.pinned (OpenSpec.ofChange fnGivenFieldPutInAtEitherEndSpec)

/-- ITS FALSE NEIGHBOUR: 'it returns false'. Refute it at one input. -/
def fnGivenFieldPutInAtEitherEndWrong : ChangeSpec := { name := "fnGivenFieldPutInAtEitherEnd", fn := fun _ => fun
  | [d1, d2, d3, d4, d5, d6] => { results := [.lit (.bool false)], args := [d1, d2, d3, d4, d5, d6] }
  | _ => none }
def FnGivenFieldPutInAtEitherEndWrongFalsely : Prop := fnGivenFieldPutInAtEitherEndRow.holds Try.pinned (OpenSpec.ofChange fnGivenFieldPutInAtEitherEndWrong)

/-- 'zzlaws_internal_record_b1.FnGivenJoinUnitesAndNestingHides': WHATEVER THE INPUT: true; the input reads as it did. -/
def fnGivenJoinUnitesAndNestingHidesSpec : ChangeSpec := { name := "fnGivenJoinUnitesAndNestingHides", fn := fun _ => fun
  | [d1, d2, d3, d4, d5, d6, d7, d8, d9, d10] => { results := [.lit (.bool true)], args := [d1, d2, d3, d4, d5, d6, d7, d8, d9, d10] }
  | _ => none }
def fnGivenJoinUnitesAndNestingHidesRow : OpenClaim := { program := "qxb6625799a", sum := "209bc279bda93d2a3a42842a270b03e751c7d8e405ad1192e20ba695d6732c04", func := "example.com/vestline/vestline/zzlaws_internal_record_b1.FnGivenJoinUnitesAndNestingHides", spec := "fnGivenJoinUnitesAndNestingHides", apart := false }
def FnGivenJoinUnitesAndNestingHidesSaid : Prop := fnGivenJoinUnitesAndNestingHidesRow.holds Try.pinned (OpenSpec.ofChange fnGivenJoinUnitesAndNestingHidesSpec)

/-- ITS FALSE NEIGHBOUR: 'it returns false'. Refute it at one input. -/
def fnGivenJoinUnitesAndNestingHidesWrong : ChangeSpec := { name := "fnGivenJoinUnitesAndNestingHides", fn := fun _ => fun
  | [d1, d2, d3, d4, d5, d6, d7, d8, d9, d10] => { results := [.lit (.bool false)], args := [d1, d2, d3, d4, d5, d6, d7, d8, d9, d10] }
  | _ => none }
def FnGivenJoinUnitesAndNestingHidesWrongFalsely : Prop := fnGivenJoinUnitesAndNestingHidesRow.holds Try.pinned (OpenSpec.ofChange fnGivenJoinUnitesAndNestingHidesWrong)

end Rows
end Go.Proofs.Qxb6625799a
