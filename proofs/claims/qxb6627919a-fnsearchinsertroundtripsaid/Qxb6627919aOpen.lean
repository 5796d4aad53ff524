import Derived.Test.Qxb6627919aRows
import Derived.Test.Qxb6627919aMake
import Derived.ProofKit
import Derived.OpenShut
import Derived.ShutString
import Derived.ChangeOld
import Derived.Deep.SlicePairs
import Derived.Lib.SmallJoins
namespace Go.Proofs.Qxb6627919a
open Go.ChangeShapes Go.WideShapes Go.ChangeAt Go.RowKit

theorem own : ownKnob Try.prog.godebug = none := by kernel_rfl
theorem laidOut : laidOutB Try.prog = true := by kernel_rfl
theorem Try.cells24 : Try.prog.cellsOf 24 = 2 := by kernel_rfl
theorem Try.cells2 : Try.prog.cellsOf 2 = 1 := by kernel_rfl
theorem Try.cells9 : Try.prog.cellsOf 9 = 1 := by kernel_rfl

section
variable {H : Type} {enc : TypeId × Value → H} {W : World} {base : Nat}

/-- A slice of keys that came in. -/
theorem open_keys {a0 : Option Addr} {len cap : Nat} {d : DataW H} {p : List MemPlace} (h : DataW.Trod enc Try.prog W 0 (fun _ => true) true 22 (.slice a0 len cap) d p) :
    ∃ ks : List (Int × ByteArray), ks.length = len ∧ Row W a0 ks ∧ len ≤ cap := by
  obtain ⟨fuel, hf⟩ := h
  rcases Deep.open_slice_pairs Try.underlying22 Try.underlying24 Try.cells24 rfl rfl Try.cells2 Try.cells9 hf with ⟨hcs, _⟩ | ⟨a, len', cap', m, n, V0, V1, D0, D1, P0, P1, hcs, _, hl, hm, hmm, _, hx⟩
  · simp [Value.cells] at hcs
    obtain ⟨rfl, rfl, rfl⟩ := hcs
    exact ⟨[], rfl, fun i hi => by simp at hi, Nat.le_refl _⟩
  · simp [Value.cells] at hcs
    obtain ⟨rfl, rfl, rfl⟩ := hcs
    simp only [if_true] at hmm
    subst hmm
    have each : ∀ i, i < m → ∃ q : Int × ByteArray, W.cell? (a.add (i * 2)) = some (.int .i64 q.1) ∧ W.cell? (a.add (i * 2 + 1)) = some (.string q.2) := by
      intro i hi
      obtain ⟨h1, h2, h3, h4⟩ := hx i hi
      obtain ⟨z, e1, _, _⟩ := DataW.trod_int Try.underlying2 h3
      obtain ⟨s, e2, _, _⟩ := DataW.trod_string Try.underlying9 h4
      simp only [List.cons.injEq, and_true] at e1 e2
      rw [e1] at h1
      rw [e2] at h2
      exact ⟨(z, s), h1, h2⟩
    obtain ⟨q, hq⟩ := Deep.choose_lt each
    refine ⟨(List.range len).map q, by simp, fun i hi => ?_, hl⟩
    simp at hi
    obtain ⟨h1, h2⟩ := hq i (by omega)
    have hk : ((List.range len).map q).getD i (0, ByteArray.empty) = q i := by simp [List.getD, hi]
    obtain ⟨b, off, spot⟩ := a
    have hspot : spot = none := by simpa [Addr.add] using World.cell?_spot (hq 0 (by omega)).1
    subst hspot
    rw [add_plain] at h1 h2
    exact ⟨b, off, rfl, World.block_lt_of_cell? W _ h1, by rw [hk]; exact h1, by rw [hk, Nat.add_assoc]; exact h2⟩

/-- A key that came in. -/
theorem open_key {v : Value} {d : DataW H} {p : List MemPlace} (hv : Value.okWide Try.prog W .any base 24 v) (h : DataW.Trod enc Try.prog W 0 (fun _ => true) true 24 v d p) :
    ∃ x : Int × ByteArray, v = .agg #[.int .i64 x.1, .string x.2] := by
  obtain ⟨v0, v1, y0, y1, n, rfl, _, _, h0, h1⟩ := Joins.open_agg2 Try.underlying24 (by kernel_rfl) Try.cells24 hv h
  obtain ⟨z, e1, _, _⟩ := DataW.trod_int Try.underlying2 h0
  obtain ⟨s, e2, _, _⟩ := DataW.trod_string Try.underlying9 h1
  simp only [List.cons.injEq, and_true] at e1 e2
  subst e1 e2
  exact ⟨(z, s), rfl⟩
end
end Go.Proofs.Qxb6627919a
