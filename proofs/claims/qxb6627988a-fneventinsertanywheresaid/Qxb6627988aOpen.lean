import Derived.Test.Qxb6627988aRows
import Derived.Test.Qxb6627988aEv
import Derived.ProofKit
import Derived.OpenShut
import Derived.ShutString
import Derived.ChangeOld
import Derived.Deep.Slices
namespace Go.Proofs.Qxb6627988a
open Go.ChangeShapes Go.WideShapes Go.ChangeAt Go.RowKit

theorem own : ownKnob Try.prog.godebug = none := by kernel_rfl
theorem laidOut : laidOutB Try.prog = true := by kernel_rfl
theorem Try.cells9 : Try.prog.cellsOf 9 = 1 := by kernel_rfl

section
variable {H : Type} {enc : TypeId × Value → H} {W : World}

/-- A slice of strings that came in. -/
theorem open_names {a0 : Option Addr} {len cap : Nat} {d : DataW H} {p : List MemPlace} (h : DataW.Trod enc Try.prog W 0 (fun _ => true) true 23 (.slice a0 len cap) d p) :
    ∃ nm : Nat → ByteArray, SRow W a0 len nm := by
  obtain ⟨fuel, hf⟩ := h
  rcases Deep.open_slice1 Try.underlying23 Try.cells9 hf with ⟨hcs, _⟩ | ⟨a, len', cap', m, n, V, D, Pl, hcs, _, hl, hm, hmm, _, hx⟩
  · simp [Value.cells] at hcs
    obtain ⟨rfl, rfl, rfl⟩ := hcs
    exact ⟨fun _ => ByteArray.empty, fun i hi => by omega⟩
  · simp [Value.cells] at hcs
    obtain ⟨rfl, rfl, rfl⟩ := hcs
    simp only [if_true] at hmm
    subst hmm
    have each : ∀ i, i < m → ∃ q : ByteArray, W.cell? (a.add i) = some (.string q) := by
      intro i hi
      obtain ⟨h1, h2⟩ := hx i hi
      obtain ⟨z, e1, _⟩ := DataW.trod_string Try.underlying9 h2
      simp only [List.cons.injEq, and_true] at e1
      rw [e1] at h1
      exact ⟨z, h1⟩
    obtain ⟨q, hq⟩ := Deep.choose_lt each
    refine ⟨q, fun i hi => ?_⟩
    have h1 := hq i (by omega)
    obtain ⟨b, off, spot⟩ := a
    have hspot : spot = none := by simpa [Addr.add] using World.cell?_spot (hq 0 (by omega))
    subst hspot
    rw [add_plain] at h1
    exact ⟨b, off, rfl, World.block_lt_of_cell? W _ h1, h1⟩
end
end Go.Proofs.Qxb6627988a
