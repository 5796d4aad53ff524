/-
  No cell of these rows narrows 'for every input' (looked for: loops, veiled, ifaces, maps, wideKeys, modest, calm, conditions, laid).
  DERIVED. THE GIVEN ROWS OF THIS SEAT. 2 by the template 'for every input the law returns true; each argument reads behind the call as it read before'; 0 by the template 'total and deterministic' (their statements: Qxb6628016aTotals.lean).
  GIVEN WITH THE SEED: the statements are not yours to turn. If you find one false, say at which input.
  Laid BY PROGRAM, IN A SANDBOX (cutbox-rows.mjs): the forced cells as the released guide's own fill.sh prints them over the translation 22a64d60e13d046d… (all of the seat's roots in one cut). By AI agents, Wed Nov 11 2026. No macro, syntax, notation, axiom, sorry.
-/
import Derived.Test.Qxb6628016aChecked
import GoSem.Claim
import GoSem.ClaimJoined
import GoSem.ClaimMapViews
import Derived.JoinedTies
import Derived.KernelRfl
namespace Go.Proofs.Qxb6628016a
/- THE CELL 'sum', in the pinned program and in every row, IS THE sha256 OF THE DUMP (.gsa) THAT Qxb6628016aProg.lean LOADS. Nothing in Lean hashes anything: it is a label: what it is worth is what the hold of that sum in a sandbox is worth. -/
noncomputable def Try.pinned : Pinned := { name := "qxb6628016a", sum := "22a64d60e13d046d7301ba02f866887018dac352fc8a3e55aef6675f6e37c8bb", checked := Try.checked }
namespace Rows
def none {H : Type} : Left H := { results := [], args := [] }

/-- 'zzlaws_internal_streamlet_b1.FnHeardScriptAnswersFirstNewVoice': WHATEVER THE INPUT: true; the input reads as it did. -/
def fnHeardScriptAnswersFirstNewVoiceSpec : ChangeSpec := { name := "fnHeardScriptAnswersFirstNewVoice", fn := fun _ => fun
  | [d1, d2, d3] => { results := [.lit (.bool true)], args := [d1, d2, d3] }
  | _ => none }
def fnHeardScriptAnswersFirstNewVoiceRow : OpenClaim := { program := "qxb6628016a", sum := "22a64d60e13d046d7301ba02f866887018dac352fc8a3e55aef6675f6e37c8bb", func := "example.com/tercet/tercet/zzlaws_internal_streamlet_b1.FnHeardScriptAnswersFirstNewVoice", spec := "fnHeardScriptAnswersFirstNewVoice", plainKeys := false, apart := false }
def FnHeardScriptAnswersFirstNewVoiceSaid : Prop := fnHeardScriptAnswersFirstNewVoiceRow.holds Try.pinned (OpenSpec.ofChange fnHeardScriptAnswersFirstNewVoiceSpec)

/-- ITS FALSE NEIGHBOUR: 'it returns false'. Refute it at one input. -/
def fnHeardScriptAnswersFirstNewVoiceWrong : ChangeSpec := { name := "fnHeardScriptAnswersFirstNewVoice", fn := fun _ => fun
  | [d1, d2, d3] => { results := [.lit (.bool false)], args := [d1, d2, d3] }
  | _ => none }
def FnHeardScriptAnswersFirstNewVoiceWrongFalsely : Prop := fnHeardScriptAnswersFirstNewVoiceRow.holds Try.pinned (OpenSpec.ofChange fnHeardScriptAnswersFirstNewVoiceWrong)

/-- 'zzlaws_internal_streamlet_b1.FnHeardScriptOrderFree': WHATEVER THE INPUT: true; the input reads as it did. -/
def fnHeardScriptOrderFreeSpec : ChangeSpec := { name := "fnHeardScriptOrderFree", fn := fun _ => fun
  | [d1, d2, d3] => { results := [.lit (.bool true)], args := [d1, d2, d3] }
  | _ => none }
def fnHeardScriptOrderFreeRow : OpenClaim := { program := "qxb6628016a", sum := "22a64d60e13d046d7301ba02f866887018dac352fc8a3e55aef6675f6e37c8bb", func := "example.com/tercet/tercet/zzlaws_internal_streamlet_b1.FnHeardScriptOrderFree", spec := "fnHeardScriptOrderFree", plainKeys := false, apart := false }
def FnHeardScriptOrderFreeSaid : Prop := fnHeardScriptOrderFreeRow.holds Try.pinned (OpenSpec.ofChange fnHeardScriptOrderFreeSpec)

/-- ITS FALSE NEIGHBOUR: 'it returns false'. Refute it at one input. -/
def fnHeardScriptOrderFreeWrong : ChangeSpec := { name := "fnHeardScriptOrderFree", fn := fun _ => fun
  | [d1, d2, d3] => { results := [.lit (.bool false)], args := [d1, d2, d3] }
  | _ => none }
def FnHeardScriptOrderFreeWrongFalsely : Prop := fnHeardScriptOrderFreeRow.holds Try.pinned (OpenSpec.ofChange fnHeardScriptOrderFreeWrong)

end Rows
end Go.Proofs.Qxb6628016a
