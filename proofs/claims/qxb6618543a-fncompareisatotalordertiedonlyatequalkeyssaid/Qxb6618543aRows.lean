/-
  No cell of these rows narrows 'for every input' (looked for: loops, veiled, ifaces, maps, wideKeys, modest, calm, conditions, laid).
  DERIVED. THE GIVEN ROWS OF THIS SEAT. 2 by the template 'for every input the law returns true; each argument reads behind the call as it read before'; 0 by the template 'total and deterministic' (their statements: Qxb6618543aTotals.lean).
  GIVEN WITH THE SEED: the statements are not yours to turn. If you find one false, say at which input.
  Laid BY PROGRAM, IN A SANDBOX (cutbox-rows.mjs): the forced cells as the released guide's own fill.sh prints them over the translation 0a89eecad1ed17bf… (all of the seat's roots in one cut). By AI agents, Wed Nov 11 2026. No macro, syntax, notation, axiom, sorry.
-/
import Derived.Test.Qxb6618543aChecked
import GoSem.Claim
import GoSem.ClaimJoined
import GoSem.ClaimMapViews
import Derived.JoinedTies
import Derived.KernelRfl
namespace Go.Proofs.Qxb6618543a
/- THE CELL 'sum', in the pinned program and in every row, IS THE sha256 OF THE DUMP (.gsa) THAT Qxb6618543aProg.lean LOADS. Nothing in Lean hashes anything: it is a label: what it is worth is what the hold of that sum in a sandbox is worth. -/
noncomputable def Try.pinned : Pinned := { name := "qxb6618543a", sum := "0a89eecad1ed17bf84e01ce5f7e774808313e9cc919c65f49935471b15a07e2d", checked := Try.checked }
namespace Rows
def none {H : Type} : Left H := { results := [], args := [] }

/-- 'zzlaws_eviction_b1.FnCompareIsATotalOrderTiedOnlyAtEqualKeys': WHATEVER THE INPUT: true; the input reads as it did. -/
def fnCompareIsATotalOrderTiedOnlyAtEqualKeysSpec : ChangeSpec := { name := "fnCompareIsATotalOrderTiedOnlyAtEqualKeys", fn := fun _ => fun
  | [d1, d2, d3, d4] => { results := [.lit (.bool true)], args := [d1, d2, d3, d4] }
  | _ => none }
def fnCompareIsATotalOrderTiedOnlyAtEqualKeysRow : OpenClaim := { program := "qxb6618543a", sum := "0a89eecad1ed17bf84e01ce5f7e774808313e9cc919c65f49935471b15a07e2d", func := "example.com/loadshed/loadshed/zzlaws_eviction_b1.FnCompareIsATotalOrderTiedOnlyAtEqualKeys", spec := "fnCompareIsATotalOrderTiedOnlyAtEqualKeys", apart := false }
def FnCompareIsATotalOrderTiedOnlyAtEqualKeysSaid : Prop := fnCompareIsATotalOrderTiedOnlyAtEqualKeysRow.holds Try.pinned (OpenSpec.ofChange fnCompareIsATotalOrderTiedOnlyAtEqualKeysSpec)

/-- ITS FALSE NEIGHBOUR: 'it returns false'. Refute it at one input. -/
def fnCompareIsATotalOrderTiedOnlyAtEqualKeysWrong : ChangeSpec := { name := "fnCompareIsATotalOrderTiedOnlyAtEqualKeys", fn := fun _ => fun
  | [d1, d2, d3, d4] => { results := [.lit (.bool false)], args := [d1, d2, d3, d4] }
  | _ => none }
def FnCompareIsATotalOrderTiedOnlyAtEqualKeysWrongFalsely : Prop := fnCompareIsATotalOrderTiedOnlyAtEqualKeysRow.holds Try.pinned (OpenSpec.ofChange fnCompareIsATotalOrderTiedOnlyAtEqualKeysWrong)

/-- 'zzlaws_eviction_b1.FnCompareLeadOrdersFirstThenAgrees': WHATEVER THE INPUT: true; the input reads as it did. -/
def fnCompareLeadOrdersFirstThenAgreesSpec : ChangeSpec := { name := "fnCompareLeadOrdersFirstThenAgrees", fn := fun _ => fun
  | [d1, d2] => { results := [.lit (.bool true)], args := [d1, d2] }
  | _ => none }
def fnCompareLeadOrdersFirstThenAgreesRow : OpenClaim := { program := "qxb6618543a", sum := "0a89eecad1ed17bf84e01ce5f7e774808313e9cc919c65f49935471b15a07e2d", func := "example.com/loadshed/loadshed/zzlaws_eviction_b1.FnCompareLeadOrdersFirstThenAgrees", spec := "fnCompareLeadOrdersFirstThenAgrees", apart := false }
def FnCompareLeadOrdersFirstThenAgreesSaid : Prop := fnCompareLeadOrdersFirstThenAgreesRow.holds Try.pinned (OpenSpec.ofChange fnCompareLeadOrdersFirstThenAgreesSpec)

/-- ITS FALSE NEIGHBOUR: 'it returns false'. Refute it at one input. -/
def fnCompareLeadOrdersFirstThenAgreesWrong : ChangeSpec := { name := "fnCompareLeadOrdersFirstThenAgrees", fn := fun _ => fun
  | [d1, d2] => { results := [.lit (.bool false)], args := [d1, d2] }
  | _ => none }
def FnCompareLeadOrdersFirstThenAgreesWrongFalsely : Prop := fnCompareLeadOrdersFirstThenAgreesRow.holds Try.pinned (OpenSpec.ofChange fnCompareLeadOrdersFirstThenAgreesWrong)

end Rows
end Go.Proofs.Qxb6618543a
