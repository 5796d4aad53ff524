/-
  No cell of these rows narrows 'for every input' (looked for: loops, veiled, ifaces, maps, wideKeys, modest, calm, conditions, laid).
  DERIVED. THE GIVEN ROWS OF THIS SEAT. 2 by the template 'for every input the law returns true; each argument reads behind the call as it read before'; 0 by the template 'total and deterministic' (their statements: Qxb6627919aTotals.lean).
  GIVEN WITH THE SEED: the statements are not yours to turn. If you find one false, say at which input.
  Laid BY PROGRAM, IN A SANDBOX (cutbox-rows.mjs): the forced cells as the released guide's own fill.sh prints them over the translation b1d88ffe8b0c521e… (all of the seat's roots in one cut). By AI agents, Wed Nov 11 2026. No macro, syntax, notation, axiom, sorry.
-/
import Derived.Test.Qxb6627919aChecked
import GoSem.Claim
import GoSem.ClaimJoined
import GoSem.ClaimMapViews
import Derived.JoinedTies
import Derived.KernelRfl
namespace Go.Proofs.Qxb6627919a
/- THE CELL 'sum', in the pinned program and in every row, IS THE sha256 OF THE DUMP (.gsa) THAT Qxb6627919aProg.lean LOADS. Nothing in Lean hashes anything: it is a label: what it is worth is what the hold of that sum in a sandbox is worth. -/
noncomputable def Try.pinned : Pinned := { name := "qxb6627919a", sum := "b1d88ffe8b0c521eb108f3218e7eee969e9313af7c56a1740e218cc0bf164935", checked := Try.checked }
namespace Rows
def none {H : Type} : Left H := { results := [], args := [] }

/-- 'zzlaws_internal_engine_b1.FnSearchInsertRoundTrip': WHATEVER THE INPUT: true; the input reads as it did. -/
def fnSearchInsertRoundTripSpec : ChangeSpec := { name := "fnSearchInsertRoundTrip", fn := fun _ => fun
  | [d1, d2] => { results := [.lit (.bool true)], args := [d1, d2] }
  | _ => none }
def fnSearchInsertRoundTripRow : OpenClaim := { program := "qxb6627919a", sum := "b1d88ffe8b0c521eb108f3218e7eee969e9313af7c56a1740e218cc0bf164935", func := "example.com/isolene/isolene/zzlaws_internal_engine_b1.FnSearchInsertRoundTrip", spec := "fnSearchInsertRoundTrip", apart := false }
def FnSearchInsertRoundTripSaid : Prop := fnSearchInsertRoundTripRow.holds Try.pinned (OpenSpec.ofChange fnSearchInsertRoundTripSpec)

/-- ITS FALSE NEIGHBOUR: 'it returns false'. Refute it at one input. -/
def fnSearchInsertRoundTripWrong : ChangeSpec := { name := "fnSearchInsertRoundTrip", fn := fun _ => fun
  | [d1, d2] => { results := [.lit (.bool false)], args := [d1, d2] }
  | _ => none }
def FnSearchInsertRoundTripWrongFalsely : Prop := fnSearchInsertRoundTripRow.holds Try.pinned (OpenSpec.ofChange fnSearchInsertRoundTripWrong)

/-- 'zzlaws_internal_engine_b1.FnSearchSplitsAtAnyCut': WHATEVER THE INPUT: true; the input reads as it did. -/
def fnSearchSplitsAtAnyCutSpec : ChangeSpec := { name := "fnSearchSplitsAtAnyCut", fn := fun _ => fun
  | [d1, d2, d3] => { results := [.lit (.bool true)], args := [d1, d2, d3] }
  | _ => none }
def fnSearchSplitsAtAnyCutRow : OpenClaim := { program := "qxb6627919a", sum := "b1d88ffe8b0c521eb108f3218e7eee969e9313af7c56a1740e218cc0bf164935", func := "example.com/isolene/isolene/zzlaws_internal_engine_b1.FnSearchSplitsAtAnyCut", spec := "fnSearchSplitsAtAnyCut", apart := false }
def FnSearchSplitsAtAnyCutSaid : Prop := fnSearchSplitsAtAnyCutRow.holds Try.pinned (OpenSpec.ofChange fnSearchSplitsAtAnyCutSpec)

/-- ITS FALSE NEIGHBOUR: 'it returns false'. Refute it at one input. -/
def fnSearchSplitsAtAnyCutWrong : ChangeSpec := { name := "fnSearchSplitsAtAnyCut", fn := fun _ => fun
  | [d1, d2, d3] => { results := [.lit (.bool false)], args := [d1, d2, d3] }
  | _ => none }
def FnSearchSplitsAtAnyCutWrongFalsely : Prop := fnSearchSplitsAtAnyCutRow.holds Try.pinned (OpenSpec.ofChange fnSearchSplitsAtAnyCutWrong)

end Rows
end Go.Proofs.Qxb6627919a
