/-
  No cell of these rows narrows 'for every input' (looked for: loops, veiled, ifaces, maps, wideKeys, modest, calm, conditions, laid).
  DERIVED. THE GIVEN ROWS OF THIS SEAT. 2 by the template 'for every input the law returns true; each argument reads behind the call as it read before'; 0 by the template 'total and deterministic' (their statements: Qxb6627988aTotals.lean).
  GIVEN WITH THE SEED: the statements are not yours to turn. If you find one false, say at which input.
  Laid BY PROGRAM, IN A SANDBOX (cutbox-rows.mjs): the forced cells as the released guide's own fill.sh prints them over the translation 2195ad550fa71f86… (all of the seat's roots in one cut). By AI agents, Wed Nov 11 2026. No macro, syntax, notation, axiom, sorry.
-/
import Derived.Test.Qxb6627988aChecked
import GoSem.Claim
import GoSem.ClaimJoined
import GoSem.ClaimMapViews
import Derived.JoinedTies
import Derived.KernelRfl
namespace Go.Proofs.Qxb6627988a
/- THE CELL 'sum', in the pinned program and in every row, IS THE sha256 OF THE DUMP (.gsa) THAT Qxb6627988aProg.lean LOADS. Nothing in Lean hashes anything: it is a label: what it is worth is what the hold of that sum in a sandbox is worth. -/
noncomputable def Try.pinned : Pinned := { name := "qxb6627988a", sum := "2195ad550fa71f868a186302452f245dec1ff464c66e319fc1e163f2b8d9f199", checked := Try.checked }
namespace Rows
def none {H : Type} : Left H := { results := [], args := [] }

/-- 'zzlaws_packages_b1.FnEventSplitAtAnyCut': WHATEVER THE INPUT: true; the input reads as it did. -/
def fnEventSplitAtAnyCutSpec : ChangeSpec := { name := "fnEventSplitAtAnyCut", fn := fun _ => fun
  | [d1, d2, d3, d4, d5, d6] => { results := [.lit (.bool true)], args := [d1, d2, d3, d4, d5, d6] }
  | _ => none }
def fnEventSplitAtAnyCutRow : OpenClaim := { program := "qxb6627988a", sum := "2195ad550fa71f868a186302452f245dec1ff464c66e319fc1e163f2b8d9f199", func := "example.com/ringback/ringback/zzlaws_packages_b1.FnEventSplitAtAnyCut", spec := "fnEventSplitAtAnyCut", apart := false }
def FnEventSplitAtAnyCutSaid : Prop := fnEventSplitAtAnyCutRow.holds Try.pinned (OpenSpec.ofChange fnEventSplitAtAnyCutSpec)

/-- ITS FALSE NEIGHBOUR: 'it returns false'. Refute it at one input. -/
def fnEventSplitAtAnyCutWrong : ChangeSpec := { name := "fnEventSplitAtAnyCut", fn := fun _ => fun
  | [d1, d2, d3, d4, d5, d6] => { results := [.lit (.bool false)], args := [d1, d2, d3, d4, d5, d6] }
  | _ => none }
def FnEventSplitAtAnyCutWrongFalsely : Prop := fnEventSplitAtAnyCutRow.holds Try.pinned (OpenSpec.ofChange fnEventSplitAtAnyCutWrong)

/-- 'zzlaws_packages_b1.FnEventInsertAnywhere': WHATEVER THE INPUT: true; the input reads as it did. -/
def fnEventInsertAnywhereSpec : ChangeSpec := { name := "fnEventInsertAnywhere", fn := fun _ => fun
  | [d1, d2, d3, d4, d5, d6, d7] => { results := [.lit (.bool true)], args := [d1, d2, d3, d4, d5, d6, d7] }
  | _ => none }
def fnEventInsertAnywhereRow : OpenClaim := { program := "qxb6627988a", sum := "2195ad550fa71f868a186302452f245dec1ff464c66e319fc1e163f2b8d9f199", func := "example.com/ringback/ringback/zzlaws_packages_b1.FnEventInsertAnywhere", spec := "fnEventInsertAnywhere", apart := false }
def FnEventInsertAnywhereSaid : Prop := fnEventInsertAnywhereRow.holds Try.pinned (OpenSpec.ofChange fnEventInsertAnywhereSpec)

/-- ITS FALSE NEIGHBOUR: 'it returns false'. Refute it at one input. -/
def fnEventInsertAnywhereWrong : ChangeSpec := { name := "fnEventInsertAnywhere", fn := fun _ => fun
  | [d1, d2, d3, d4, d5, d6, d7] => { results := [.lit (.bool false)], args := [d1, d2, d3, d4, d5, d6, d7] }
  | _ => none }
def FnEventInsertAnywhereWrongFalsely : Prop := fnEventInsertAnywhereRow.holds Try.pinned (OpenSpec.ofChange fnEventInsertAnywhereWrong)

end Rows
end Go.Proofs.Qxb6627988a
