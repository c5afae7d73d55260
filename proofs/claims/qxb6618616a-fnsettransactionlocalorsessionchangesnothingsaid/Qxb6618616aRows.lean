/-
  No cell of these rows narrows 'for every input' (looked for: loops, veiled, ifaces, maps, wideKeys, modest, calm, conditions, laid).
  DERIVED. THE GIVEN ROWS OF THIS SEAT. 4 by the template 'for every input the law returns true; each argument reads behind the call as it read before'; 0 by the template 'total and deterministic' (their statements: Qxb6618616aTotals.lean).
  GIVEN WITH THE SEED: the statements are not yours to turn. If you find one false, say at which input.
  Laid BY PROGRAM, IN A SANDBOX (cutbox-rows.mjs): the forced cells as the released guide's own fill.sh prints them over the translation 61d8084a5ec909bb… (all of the seat's roots in one cut). By AI agents, Wed Nov 11 2026. No macro, syntax, notation, axiom, sorry.
-/
import Derived.Test.Qxb6618616aChecked
import GoSem.Claim
import GoSem.ClaimJoined
import GoSem.ClaimMapViews
import Derived.JoinedTies
import Derived.KernelRfl
namespace Go.Proofs.Qxb6618616a
/- THE CELL 'sum', in the pinned program and in every row, IS THE sha256 OF THE DUMP (.gsa) THAT Qxb6618616aProg.lean LOADS. Nothing in Lean hashes anything: it is a label: what it is worth is what the hold of that sum in a sandbox is worth. -/
noncomputable def Try.pinned : Pinned := { name := "qxb6618616a", sum := "61d8084a5ec909bb38085d1d1e81d6098e74beb689c57a27a05b0c731360346a", checked := Try.checked }
namespace Rows
def none {H : Type} : Left H := { results := [], args := [] }

/-- 'zzlaws_internal_sqltext_b1.FnIsStringConstantDecidedByKindAndFirstTwoBytes': WHATEVER THE INPUT: true; the input reads as it did. -/
def fnIsStringConstantDecidedByKindAndFirstTwoBytesSpec : ChangeSpec := { name := "fnIsStringConstantDecidedByKindAndFirstTwoBytes", fn := fun _ => fun
  | [d1, d2, d3, d4, d5, d6] => { results := [.lit (.bool true)], args := [d1, d2, d3, d4, d5, d6] }
  | _ => none }
def fnIsStringConstantDecidedByKindAndFirstTwoBytesRow : OpenClaim := { program := "qxb6618616a", sum := "61d8084a5ec909bb38085d1d1e81d6098e74beb689c57a27a05b0c731360346a", func := "example.com/porphyry/porphyry/zzlaws_internal_sqltext_b1.FnIsStringConstantDecidedByKindAndFirstTwoBytes", spec := "fnIsStringConstantDecidedByKindAndFirstTwoBytes", apart := false }
def FnIsStringConstantDecidedByKindAndFirstTwoBytesSaid : Prop := fnIsStringConstantDecidedByKindAndFirstTwoBytesRow.holds Try.pinned (OpenSpec.ofChange fnIsStringConstantDecidedByKindAndFirstTwoBytesSpec)

/-- ITS FALSE NEIGHBOUR: 'it returns false'. Refute it at one input. -/
def fnIsStringConstantDecidedByKindAndFirstTwoBytesWrong : ChangeSpec := { name := "fnIsStringConstantDecidedByKindAndFirstTwoBytes", fn := fun _ => fun
  | [d1, d2, d3, d4, d5, d6] => { results := [.lit (.bool false)], args := [d1, d2, d3, d4, d5, d6] }
  | _ => none }
def FnIsStringConstantDecidedByKindAndFirstTwoBytesWrongFalsely : Prop := fnIsStringConstantDecidedByKindAndFirstTwoBytesRow.holds Try.pinned (OpenSpec.ofChange fnIsStringConstantDecidedByKindAndFirstTwoBytesWrong)

/-- 'zzlaws_internal_sqltext_b1.FnSetTransactionLocalOrSessionChangesNothing': WHATEVER THE INPUT: true; the input reads as it did. -/
def fnSetTransactionLocalOrSessionChangesNothingSpec : ChangeSpec := { name := "fnSetTransactionLocalOrSessionChangesNothing", fn := fun _ => fun
  | [d1, d2, d3, d4, d5, d6, d7, d8, d9, d10, d11, d12] => { results := [.lit (.bool true)], args := [d1, d2, d3, d4, d5, d6, d7, d8, d9, d10, d11, d12] }
  | _ => none }
def fnSetTransactionLocalOrSessionChangesNothingRow : OpenClaim := { program := "qxb6618616a", sum := "61d8084a5ec909bb38085d1d1e81d6098e74beb689c57a27a05b0c731360346a", func := "example.com/porphyry/porphyry/zzlaws_internal_sqltext_b1.FnSetTransactionLocalOrSessionChangesNothing", spec := "fnSetTransactionLocalOrSessionChangesNothing", inPlace := ["internal/abi.NoEscape", "internal/bytealg.MakeNoZero"], apart := false }
def FnSetTransactionLocalOrSessionChangesNothingSaid : Prop := fnSetTransactionLocalOrSessionChangesNothingRow.holds Try.pinned (OpenSpec.ofChange fnSetTransactionLocalOrSessionChangesNothingSpec)

/-- ITS FALSE NEIGHBOUR: 'it returns false'. Refute it at one input. -/
def fnSetTransactionLocalOrSessionChangesNothingWrong : ChangeSpec := { name := "fnSetTransactionLocalOrSessionChangesNothing", fn := fun _ => fun
  | [d1, d2, d3, d4, d5, d6, d7, d8, d9, d10, d11, d12] => { results := [.lit (.bool false)], args := [d1, d2, d3, d4, d5, d6, d7, d8, d9, d10, d11, d12] }
  | _ => none }
def FnSetTransactionLocalOrSessionChangesNothingWrongFalsely : Prop := fnSetTransactionLocalOrSessionChangesNothingRow.holds Try.pinned (OpenSpec.ofChange fnSetTransactionLocalOrSessionChangesNothingWrong)

/-- 'zzlaws_internal_sqltext_b1.FnNamesOneMoreNameAnywhereIsNotEmpty': WHATEVER THE INPUT: true; the input reads as it did. -/
def fnNamesOneMoreNameAnywhereIsNotEmptySpec : ChangeSpec := { name := "fnNamesOneMoreNameAnywhereIsNotEmpty", fn := fun _ => fun
  | [d1, d2, d3, d4, d5, d6, d7] => { results := [.lit (.bool true)], args := [d1, d2, d3, d4, d5, d6, d7] }
  | _ => none }
def fnNamesOneMoreNameAnywhereIsNotEmptyRow : OpenClaim := { program := "qxb6618616a", sum := "61d8084a5ec909bb38085d1d1e81d6098e74beb689c57a27a05b0c731360346a", func := "example.com/porphyry/porphyry/zzlaws_internal_sqltext_b1.FnNamesOneMoreNameAnywhereIsNotEmpty", spec := "fnNamesOneMoreNameAnywhereIsNotEmpty", apart := false }
def FnNamesOneMoreNameAnywhereIsNotEmptySaid : Prop := fnNamesOneMoreNameAnywhereIsNotEmptyRow.holds Try.pinned (OpenSpec.ofChange fnNamesOneMoreNameAnywhereIsNotEmptySpec)

/-- ITS FALSE NEIGHBOUR: 'it returns false'. Refute it at one input. -/
def fnNamesOneMoreNameAnywhereIsNotEmptyWrong : ChangeSpec := { name := "fnNamesOneMoreNameAnywhereIsNotEmpty", fn := fun _ => fun
  | [d1, d2, d3, d4, d5, d6, d7] => { results := [.lit (.bool false)], args := [d1, d2, d3, d4, d5, d6, d7] }
  | _ => none }
def FnNamesOneMoreNameAnywhereIsNotEmptyWrongFalsely : Prop := fnNamesOneMoreNameAnywhereIsNotEmptyRow.holds Try.pinned (OpenSpec.ofChange fnNamesOneMoreNameAnywhereIsNotEmptyWrong)

/-- 'zzlaws_internal_sqltext_b1.FnNamesEmptyExactlyWhenEveryPartIs': WHATEVER THE INPUT: true; the input reads as it did. -/
def fnNamesEmptyExactlyWhenEveryPartIsSpec : ChangeSpec := { name := "fnNamesEmptyExactlyWhenEveryPartIs", fn := fun _ => fun
  | [d1, d2, d3, d4, d5, d6, d7, d8, d9, d10] => { results := [.lit (.bool true)], args := [d1, d2, d3, d4, d5, d6, d7, d8, d9, d10] }
  | _ => none }
def fnNamesEmptyExactlyWhenEveryPartIsRow : OpenClaim := { program := "qxb6618616a", sum := "61d8084a5ec909bb38085d1d1e81d6098e74beb689c57a27a05b0c731360346a", func := "example.com/porphyry/porphyry/zzlaws_internal_sqltext_b1.FnNamesEmptyExactlyWhenEveryPartIs", spec := "fnNamesEmptyExactlyWhenEveryPartIs", apart := false }
def FnNamesEmptyExactlyWhenEveryPartIsSaid : Prop := fnNamesEmptyExactlyWhenEveryPartIsRow.holds Try.pinned (OpenSpec.ofChange fnNamesEmptyExactlyWhenEveryPartIsSpec)

/-- ITS FALSE NEIGHBOUR: 'it returns false'. Refute it at one input. -/
def fnNamesEmptyExactlyWhenEveryPartIsWrong : ChangeSpec := { name := "fnNamesEmptyExactlyWhenEveryPartIs", fn := fun _ => fun
  | [d1, d2, d3, d4, d5, d6, d7, d8, d9, d10] => { results := [.lit (.bool false)], args := [d1, d2, d3, d4, d5, d6, d7, d8, d9, d10] }
  | _ => none }
def FnNamesEmptyExactlyWhenEveryPartIsWrongFalsely : Prop := fnNamesEmptyExactlyWhenEveryPartIsRow.holds Try.pinned (OpenSpec.ofChange fnNamesEmptyExactlyWhenEveryPartIsWrong)

end Rows
end Go.Proofs.Qxb6618616a
