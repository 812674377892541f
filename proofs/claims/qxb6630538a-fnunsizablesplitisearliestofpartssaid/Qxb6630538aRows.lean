/-
  No cell of these rows narrows 'for every input' (looked for: loops, veiled, ifaces, maps, wideKeys, modest, calm, conditions, laid).
  DERIVED. THE GIVEN ROWS OF THIS SEAT. 2 by the template 'for every input the law returns true; each argument reads behind the call as it read before'; 0 by the template 'total and deterministic' (their statements: Qxb6630538aTotals.lean).
  GIVEN WITH THE SEED: the statements are not yours to turn. If you find one false, say at which input.
  Laid BY PROGRAM, IN A SANDBOX (cutbox-rows.mjs): the forced cells as the released guide's own fill.sh prints them over the translation 8e371ad69e849be3… (all of the seat's roots in one cut). By AI agents, Wed Nov 11 2026. No macro, syntax, notation, axiom, sorry.
-/
import Derived.Test.Qxb6630538aChecked
import GoSem.Claim
import GoSem.ClaimJoined
import GoSem.ClaimMapViews
import Derived.JoinedTies
import Derived.KernelRfl
namespace Go.Proofs.Qxb6630538a
/- THE CELL 'sum', in the pinned program and in every row, IS THE sha256 OF THE DUMP (.gsa) THAT Qxb6630538aProg.lean LOADS. Nothing in Lean hashes anything: it is a label: what it is worth is what the hold of that sum in a sandbox is worth. -/
noncomputable def Try.pinned : Pinned := { name := "qxb6630538a", sum := "8e371ad69e849be36029424ea6ecc338aaeafab04cb5744c041cd49a47e7669c", checked := Try.checked }
namespace Rows
def none {H : Type} : Left H := { results := [], args := [] }

/-- 'zzlaws_internal_plan_b1.FnUnsizableRaiseOneFlag': WHATEVER THE INPUT: true; the input reads as it did. -/
def fnUnsizableRaiseOneFlagSpec : ChangeSpec := { name := "fnUnsizableRaiseOneFlag", fn := fun _ => fun
  | [d1, d2, d3, d4, d5, d6, d7, d8, d9, d10, d11, d12] => { results := [.lit (.bool true)], args := [d1, d2, d3, d4, d5, d6, d7, d8, d9, d10, d11, d12] }
  | _ => none }
def fnUnsizableRaiseOneFlagRow : OpenClaim := { program := "qxb6630538a", sum := "8e371ad69e849be36029424ea6ecc338aaeafab04cb5744c041cd49a47e7669c", func := "example.com/podfit/podfit/zzlaws_internal_plan_b1.FnUnsizableRaiseOneFlag", spec := "fnUnsizableRaiseOneFlag", apart := false }
def FnUnsizableRaiseOneFlagSaid : Prop := fnUnsizableRaiseOneFlagRow.holds Try.pinned (OpenSpec.ofChange fnUnsizableRaiseOneFlagSpec)

/-- ITS FALSE NEIGHBOUR: 'it returns false'. Refute it at one input. -/
def fnUnsizableRaiseOneFlagWrong : ChangeSpec := { name := "fnUnsizableRaiseOneFlag", fn := fun _ => fun
  | [d1, d2, d3, d4, d5, d6, d7, d8, d9, d10, d11, d12] => { results := [.lit (.bool false)], args := [d1, d2, d3, d4, d5, d6, d7, d8, d9, d10, d11, d12] }
  | _ => none }
def FnUnsizableRaiseOneFlagWrongFalsely : Prop := fnUnsizableRaiseOneFlagRow.holds Try.pinned (OpenSpec.ofChange fnUnsizableRaiseOneFlagWrong)

/-- 'zzlaws_internal_plan_b1.FnUnsizableSplitIsEarliestOfParts': WHATEVER THE INPUT: true; the input reads as it did. -/
def fnUnsizableSplitIsEarliestOfPartsSpec : ChangeSpec := { name := "fnUnsizableSplitIsEarliestOfParts", fn := fun _ => fun
  | [d1, d2, d3, d4, d5, d6, d7, d8, d9, d10, d11, d12] => { results := [.lit (.bool true)], args := [d1, d2, d3, d4, d5, d6, d7, d8, d9, d10, d11, d12] }
  | _ => none }
def fnUnsizableSplitIsEarliestOfPartsRow : OpenClaim := { program := "qxb6630538a", sum := "8e371ad69e849be36029424ea6ecc338aaeafab04cb5744c041cd49a47e7669c", func := "example.com/podfit/podfit/zzlaws_internal_plan_b1.FnUnsizableSplitIsEarliestOfParts", spec := "fnUnsizableSplitIsEarliestOfParts", apart := false }
def FnUnsizableSplitIsEarliestOfPartsSaid : Prop := fnUnsizableSplitIsEarliestOfPartsRow.holds Try.pinned (OpenSpec.ofChange fnUnsizableSplitIsEarliestOfPartsSpec)

/-- ITS FALSE NEIGHBOUR: 'it returns false'. Refute it at one input. -/
def fnUnsizableSplitIsEarliestOfPartsWrong : ChangeSpec := { name := "fnUnsizableSplitIsEarliestOfParts", fn := fun _ => fun
  | [d1, d2, d3, d4, d5, d6, d7, d8, d9, d10, d11, d12] => { results := [.lit (.bool false)], args := [d1, d2, d3, d4, d5, d6, d7, d8, d9, d10, d11, d12] }
  | _ => none }
def FnUnsizableSplitIsEarliestOfPartsWrongFalsely : Prop := fnUnsizableSplitIsEarliestOfPartsRow.holds Try.pinned (OpenSpec.ofChange fnUnsizableSplitIsEarliestOfPartsWrong)

end Rows
end Go.Proofs.Qxb6630538a
