import Derived.Test.Qxb6628016aRows
import Derived.Test.Qxb6628016aHeard
import Derived.ProofKit
import Derived.OpenShut
import Derived.ShutString
import Derived.ChangeOld
import Derived.Deep.Slices
import Derived.Deep.SlicePairs
namespace Go.Proofs.Qxb6628016a
open Go.ChangeShapes Go.WideShapes Go.ChangeAt Go.RowKit

theorem own : ownKnob Try.prog.godebug = none := by kernel_rfl
theorem laidOut : laidOutB Try.prog = true := by kernel_rfl
theorem Try.cells4 : Try.prog.cellsOf 4 = 1 := by kernel_rfl
theorem Try.cells27 : Try.prog.cellsOf 27 = 2 := by kernel_rfl
theorem Try.cells22 : Try.prog.cellsOf 22 = 1 := by kernel_rfl
theorem Try.cells3 : Try.prog.cellsOf 3 = 1 := by kernel_rfl

section
variable {H : Type} {enc : TypeId × Value → H} {W : World}

/-- A slice of bools that came in. -/
theorem open_bools {a0 : Option Addr} {len cap : Nat} {d : DataW H} {p : List MemPlace} (h : DataW.Trod enc Try.prog W 0 (fun _ => true) true 23 (.slice a0 len cap) d p) :
    ∃ bs : Nat → Bool, BRow W a0 len bs ∧ (a0 = none → len = 0) := by
  obtain ⟨fuel, hf⟩ := h
  rcases Deep.open_slice1 Try.underlying23 Try.cells4 hf with ⟨hcs, _⟩ | ⟨a, len', cap', m, n, V, D, Pl, hcs, _, hl, hm, hmm, _, hx⟩
  · simp [Value.cells] at hcs
    obtain ⟨rfl, rfl, rfl⟩ := hcs
    exact ⟨fun _ => false, fun i hi => by omega, fun _ => rfl⟩
  · simp [Value.cells] at hcs
    obtain ⟨rfl, rfl, rfl⟩ := hcs
    simp only [if_true] at hmm
    subst hmm
    have each : ∀ i, i < m → ∃ q : Bool, W.cell? (a.add i) = some (.bool q) := by
      intro i hi
      obtain ⟨h1, h2⟩ := hx i hi
      obtain ⟨z, e1, _⟩ := DataW.trod_bool Try.underlying4 h2
      simp only [List.cons.injEq, and_true] at e1
      rw [e1] at h1
      exact ⟨z, h1⟩
    obtain ⟨q, hq⟩ := Deep.choose_lt each
    refine ⟨q, fun i hi => ?_, fun e => by cases e⟩
    have h1 := hq i (by omega)
    obtain ⟨b, off, spot⟩ := a
    have hspot : spot = none := by simpa [Addr.add] using World.cell?_spot (hq 0 (by omega))
    subst hspot
    rw [add_plain] at h1
    exact ⟨b, off, rfl, World.block_lt_of_cell? W _ h1, h1⟩

/-- A script of calls that came in. -/
theorem open_calls {a0 : Option Addr} {len cap : Nat} {d : DataW H} {p : List MemPlace} (h : DataW.Trod enc Try.prog W 0 (fun _ => true) true 24 (.slice a0 len cap) d p) :
    ∃ ep J : Nat → Int, CRow W a0 len ep J := by
  obtain ⟨fuel, hf⟩ := h
  rcases Deep.open_slice_pairs Try.underlying24 Try.underlying27 Try.cells27 rfl rfl Try.cells22 Try.cells3 hf with ⟨hcs, _⟩ | ⟨a, len', cap', m, n, V0, V1, D0, D1, P0, P1, hcs, _, hl, hm, hmm, _, hx⟩
  · simp [Value.cells] at hcs
    obtain ⟨rfl, rfl, rfl⟩ := hcs
    exact ⟨fun _ => 0, fun _ => 0, fun i hi => by omega⟩
  · simp [Value.cells] at hcs
    obtain ⟨rfl, rfl, rfl⟩ := hcs
    simp only [if_true] at hmm
    subst hmm
    have each : ∀ i, i < m → ∃ q : Int × Int, W.cell? (a.add (i * 2)) = some (.int .u64 q.1) ∧ W.cell? (a.add (i * 2 + 1)) = some (.int .i64 q.2) := by
      intro i hi
      obtain ⟨h1, h2, h3, h4⟩ := hx i hi
      obtain ⟨z, e1, _, _⟩ := DataW.trod_int Try.underlying22 h3
      obtain ⟨y, e2, _, _⟩ := DataW.trod_int Try.underlying3 h4
      simp only [List.cons.injEq, and_true] at e1 e2
      rw [e1] at h1
      rw [e2] at h2
      exact ⟨(z, y), h1, h2⟩
    obtain ⟨q, hq⟩ := Deep.choose_lt each
    refine ⟨fun i => (q i).1, fun i => (q i).2, fun i hi => ?_⟩
    obtain ⟨h1, h2⟩ := hq i (by omega)
    obtain ⟨b, off, spot⟩ := a
    have hspot : spot = none := by simpa [Addr.add] using World.cell?_spot (hq 0 (by omega)).1
    subst hspot
    rw [add_plain] at h1 h2
    exact ⟨b, off, rfl, World.block_lt_of_cell? W _ h1, h1, by rw [Nat.add_assoc]; exact h2⟩
end
end Go.Proofs.Qxb6628016a
