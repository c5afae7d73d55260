/-
  No cell of these rows narrows 'for every input' (looked for: loops, veiled, ifaces, maps, wideKeys, modest, calm, conditions, laid).
  DERIVED. THE GIVEN ROWS OF THIS SEAT. 4 by the template 'for every input the law returns true; each argument reads behind the call as it read before'; 0 by the template 'total and deterministic' (their statements: Qxb6618518aTotals.lean).
  GIVEN WITH THE SEED: the statements are not yours to turn. If you find one false, say at which input.
  Laid BY PROGRAM, IN A SANDBOX (cutbox-rows.mjs): the forced cells as the released guide's own fill.sh prints them over the translation 2d2e49609a77ed06… (all of the seat's roots in one cut). By AI agents, Wed Nov 11 2026. No macro, syntax, notation, axiom, sorry.
-/
import Derived.Test.Qxb6618518aChecked
import GoSem.Claim
import GoSem.ClaimJoined
import GoSem.ClaimMapViews
import Derived.JoinedTies
import Derived.KernelRfl
namespace Go.Proofs.Qxb6618518a
/- THE CELL 'sum', in the pinned program and in every row, IS THE sha256 OF THE DUMP (.gsa) THAT Qxb6618518aProg.lean LOADS. Nothing in Lean hashes anything: it is a label: what it is worth is what the hold of that sum in a sandbox is worth. -/
noncomputable def Try.pinned : Pinned := { name := "qxb6618518a", sum := "2d2e49609a77ed060ff370fc077a49a71e8512146a8e03297ebac8b7b50844a9", checked := Try.checked }
namespace Rows
def none {H : Type} : Left H := { results := [], args := [] }

/-- 'zzlaws_root_b1.FnURIStringSplitsAtEveryComponentBoundary': WHATEVER THE INPUT: true; the input reads as it did. -/
def fnURIStringSplitsAtEveryComponentBoundarySpec : ChangeSpec := { name := "fnURIStringSplitsAtEveryComponentBoundary", fn := fun _ => fun
  | [d1, d2, d3, d4, d5, d6, d7, d8, d9] => { results := [.lit (.bool true)], args := [d1, d2, d3, d4, d5, d6, d7, d8, d9] }
  | _ => none }
def fnURIStringSplitsAtEveryComponentBoundaryRow : OpenClaim := { program := "qxb6618518a", sum := "2d2e49609a77ed060ff370fc077a49a71e8512146a8e03297ebac8b7b50844a9", func := "example.com/gatemark/gatemark/zzlaws_root_b1.FnURIStringSplitsAtEveryComponentBoundary", spec := "fnURIStringSplitsAtEveryComponentBoundary", inPlace := ["internal/abi.NoEscape"], apart := false }
def FnURIStringSplitsAtEveryComponentBoundarySaid : Prop := fnURIStringSplitsAtEveryComponentBoundaryRow.holds Try.pinned (OpenSpec.ofChange fnURIStringSplitsAtEveryComponentBoundarySpec)

/-- ITS FALSE NEIGHBOUR: 'it returns false'. Refute it at one input. -/
def fnURIStringSplitsAtEveryComponentBoundaryWrong : ChangeSpec := { name := "fnURIStringSplitsAtEveryComponentBoundary", fn := fun _ => fun
  | [d1, d2, d3, d4, d5, d6, d7, d8, d9] => { results := [.lit (.bool false)], args := [d1, d2, d3, d4, d5, d6, d7, d8, d9] }
  | _ => none }
def FnURIStringSplitsAtEveryComponentBoundaryWrongFalsely : Prop := fnURIStringSplitsAtEveryComponentBoundaryRow.holds Try.pinned (OpenSpec.ofChange fnURIStringSplitsAtEveryComponentBoundaryWrong)

/-- 'zzlaws_root_b1.FnURIStringRoundTripsThroughAppendixB': WHATEVER THE INPUT: true; the input reads as it did. -/
def fnURIStringRoundTripsThroughAppendixBSpec : ChangeSpec := { name := "fnURIStringRoundTripsThroughAppendixB", fn := fun _ => fun
  | [d1, d2, d3, d4, d5, d6, d7, d8, d9] => { results := [.lit (.bool true)], args := [d1, d2, d3, d4, d5, d6, d7, d8, d9] }
  | _ => none }
def fnURIStringRoundTripsThroughAppendixBRow : OpenClaim := { program := "qxb6618518a", sum := "2d2e49609a77ed060ff370fc077a49a71e8512146a8e03297ebac8b7b50844a9", func := "example.com/gatemark/gatemark/zzlaws_root_b1.FnURIStringRoundTripsThroughAppendixB", spec := "fnURIStringRoundTripsThroughAppendixB", inPlace := ["internal/abi.NoEscape"], apart := false }
def FnURIStringRoundTripsThroughAppendixBSaid : Prop := fnURIStringRoundTripsThroughAppendixBRow.holds Try.pinned (OpenSpec.ofChange fnURIStringRoundTripsThroughAppendixBSpec)

/-- ITS FALSE NEIGHBOUR: 'it returns false'. Refute it at one input. -/
def fnURIStringRoundTripsThroughAppendixBWrong : ChangeSpec := { name := "fnURIStringRoundTripsThroughAppendixB", fn := fun _ => fun
  | [d1, d2, d3, d4, d5, d6, d7, d8, d9] => { results := [.lit (.bool false)], args := [d1, d2, d3, d4, d5, d6, d7, d8, d9] }
  | _ => none }
def FnURIStringRoundTripsThroughAppendixBWrongFalsely : Prop := fnURIStringRoundTripsThroughAppendixBRow.holds Try.pinned (OpenSpec.ofChange fnURIStringRoundTripsThroughAppendixBWrong)

/-- 'zzlaws_root_b1.FnRenewalCookieIsFreshSessionCookie': WHATEVER THE INPUT: true; the input reads as it did. -/
def fnRenewalCookieIsFreshSessionCookieSpec : ChangeSpec := { name := "fnRenewalCookieIsFreshSessionCookie", fn := fun _ => fun
  | [d1, d2, d3] => { results := [.lit (.bool true)], args := [d1, d2, d3] }
  | _ => none }
def fnRenewalCookieIsFreshSessionCookieRow : OpenClaim := { program := "qxb6618518a", sum := "2d2e49609a77ed060ff370fc077a49a71e8512146a8e03297ebac8b7b50844a9", func := "example.com/gatemark/gatemark/zzlaws_root_b1.FnRenewalCookieIsFreshSessionCookie", spec := "fnRenewalCookieIsFreshSessionCookie", apart := false }
def FnRenewalCookieIsFreshSessionCookieSaid : Prop := fnRenewalCookieIsFreshSessionCookieRow.holds Try.pinned (OpenSpec.ofChange fnRenewalCookieIsFreshSessionCookieSpec)

/-- ITS FALSE NEIGHBOUR: 'it returns false'. Refute it at one input. -/
def fnRenewalCookieIsFreshSessionCookieWrong : ChangeSpec := { name := "fnRenewalCookieIsFreshSessionCookie", fn := fun _ => fun
  | [d1, d2, d3] => { results := [.lit (.bool false)], args := [d1, d2, d3] }
  | _ => none }
def FnRenewalCookieIsFreshSessionCookieWrongFalsely : Prop := fnRenewalCookieIsFreshSessionCookieRow.holds Try.pinned (OpenSpec.ofChange fnRenewalCookieIsFreshSessionCookieWrong)

/-- 'zzlaws_root_b1.FnRenewalCookieFollowsRenewalAtCallTime': WHATEVER THE INPUT: true; the input reads as it did. -/
def fnRenewalCookieFollowsRenewalAtCallTimeSpec : ChangeSpec := { name := "fnRenewalCookieFollowsRenewalAtCallTime", fn := fun _ => fun
  | [d1, d2, d3, d4, d5, d6] => { results := [.lit (.bool true)], args := [d1, d2, d3, d4, d5, d6] }
  | _ => none }
def fnRenewalCookieFollowsRenewalAtCallTimeRow : OpenClaim := { program := "qxb6618518a", sum := "2d2e49609a77ed060ff370fc077a49a71e8512146a8e03297ebac8b7b50844a9", func := "example.com/gatemark/gatemark/zzlaws_root_b1.FnRenewalCookieFollowsRenewalAtCallTime", spec := "fnRenewalCookieFollowsRenewalAtCallTime", apart := false }
def FnRenewalCookieFollowsRenewalAtCallTimeSaid : Prop := fnRenewalCookieFollowsRenewalAtCallTimeRow.holds Try.pinned (OpenSpec.ofChange fnRenewalCookieFollowsRenewalAtCallTimeSpec)

/-- ITS FALSE NEIGHBOUR: 'it returns false'. Refute it at one input. -/
def fnRenewalCookieFollowsRenewalAtCallTimeWrong : ChangeSpec := { name := "fnRenewalCookieFollowsRenewalAtCallTime", fn := fun _ => fun
  | [d1, d2, d3, d4, d5, d6] => { results := [.lit (.bool false)], args := [d1, d2, d3, d4, d5, d6] }
  | _ => none }
def FnRenewalCookieFollowsRenewalAtCallTimeWrongFalsely : Prop := fnRenewalCookieFollowsRenewalAtCallTimeRow.holds Try.pinned (OpenSpec.ofChange fnRenewalCookieFollowsRenewalAtCallTimeWrong)

end Rows
end Go.Proofs.Qxb6618518a
