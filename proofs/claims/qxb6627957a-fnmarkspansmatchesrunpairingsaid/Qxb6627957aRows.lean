/-
  No cell of these rows narrows 'for every input' (looked for: loops, veiled, ifaces, maps, wideKeys, modest, calm, conditions, laid).
  DERIVED. THE GIVEN ROWS OF THIS SEAT. 2 by the template 'for every input the law returns true; each argument reads behind the call as it read before'; 0 by the template 'total and deterministic' (their statements: Qxb6627957aTotals.lean).
  GIVEN WITH THE SEED: the statements are not yours to turn. If you find one false, say at which input.
  Laid BY PROGRAM, IN A SANDBOX (cutbox-rows.mjs): the forced cells as the released guide's own fill.sh prints them over the translation 245cc4515f4a59af… (all of the seat's roots in one cut). By AI agents, Wed Nov 11 2026. No macro, syntax, notation, axiom, sorry.
-/
import Derived.Test.Qxb6627957aChecked
import GoSem.Claim
import GoSem.ClaimJoined
import GoSem.ClaimMapViews
import Derived.JoinedTies
import Derived.KernelRfl
namespace Go.Proofs.Qxb6627957a
/- THE CELL 'sum', in the pinned program and in every row, IS THE sha256 OF THE DUMP (.gsa) THAT Qxb6627957aProg.lean LOADS. Nothing in Lean hashes anything: it is a label: what it is worth is what the hold of that sum in a sandbox is worth. -/
noncomputable def Try.pinned : Pinned := { name := "qxb6627957a", sum := "245cc4515f4a59af1da89b0020ed0f26701bc20427562ff2587f38ac7e58ba3c", checked := Try.checked }
namespace Rows
def none {H : Type} : Left H := { results := [], args := [] }

/-- 'zzlaws_root_b1.FnMarkSpansMatchesRunPairing': WHATEVER THE INPUT: true; the input reads as it did. -/
def fnMarkSpansMatchesRunPairingSpec : ChangeSpec := { name := "fnMarkSpansMatchesRunPairing", fn := fun _ => fun
  | [d1, d2] => { results := [.lit (.bool true)], args := [d1, d2] }
  | _ => none }
def fnMarkSpansMatchesRunPairingRow : OpenClaim := { program := "qxb6627957a", sum := "245cc4515f4a59af1da89b0020ed0f26701bc20427562ff2587f38ac7e58ba3c", func := "example.com/satchel/satchel/zzlaws_root_b1.FnMarkSpansMatchesRunPairing", spec := "fnMarkSpansMatchesRunPairing", apart := false }
def FnMarkSpansMatchesRunPairingSaid : Prop := fnMarkSpansMatchesRunPairingRow.holds Try.pinned (OpenSpec.ofChange fnMarkSpansMatchesRunPairingSpec)

/-- ITS FALSE NEIGHBOUR: 'it returns false'. Refute it at one input. -/
def fnMarkSpansMatchesRunPairingWrong : ChangeSpec := { name := "fnMarkSpansMatchesRunPairing", fn := fun _ => fun
  | [d1, d2] => { results := [.lit (.bool false)], args := [d1, d2] }
  | _ => none }
def FnMarkSpansMatchesRunPairingWrongFalsely : Prop := fnMarkSpansMatchesRunPairingRow.holds Try.pinned (OpenSpec.ofChange fnMarkSpansMatchesRunPairingWrong)

/-- 'zzlaws_root_b1.FnMarkSpansLongerFenceCoversAll': WHATEVER THE INPUT: true; the input reads as it did. -/
def fnMarkSpansLongerFenceCoversAllSpec : ChangeSpec := { name := "fnMarkSpansLongerFenceCoversAll", fn := fun _ => fun
  | [d] => { results := [.lit (.bool true)], args := [d] }
  | _ => none }
def fnMarkSpansLongerFenceCoversAllRow : OpenClaim := { program := "qxb6627957a", sum := "245cc4515f4a59af1da89b0020ed0f26701bc20427562ff2587f38ac7e58ba3c", func := "example.com/satchel/satchel/zzlaws_root_b1.FnMarkSpansLongerFenceCoversAll", spec := "fnMarkSpansLongerFenceCoversAll", apart := false }
def FnMarkSpansLongerFenceCoversAllSaid : Prop := fnMarkSpansLongerFenceCoversAllRow.holds Try.pinned (OpenSpec.ofChange fnMarkSpansLongerFenceCoversAllSpec)

/-- ITS FALSE NEIGHBOUR: 'it returns false'. Refute it at one input. -/
def fnMarkSpansLongerFenceCoversAllWrong : ChangeSpec := { name := "fnMarkSpansLongerFenceCoversAll", fn := fun _ => fun
  | [d] => { results := [.lit (.bool false)], args := [d] }
  | _ => none }
def FnMarkSpansLongerFenceCoversAllWrongFalsely : Prop := fnMarkSpansLongerFenceCoversAllRow.holds Try.pinned (OpenSpec.ofChange fnMarkSpansLongerFenceCoversAllWrong)

end Rows
end Go.Proofs.Qxb6627957a
