import Derived.Test.Qxb6627957aMark
namespace Go.Proofs.Qxb6627957a
open Go.RowKit

theorem Try.info4b : (Try.prog.info? 4).map (fun i => (i.zero, i.size, i.bytes)) = some (some (.bool false), 1, 1) := by kernel_rfl

/-- A slice of bools: element i's cell. -/
def BRow (w : World) (ao : Option Addr) (n : Nat) (bs : Nat → Bool) : Prop :=
  ∀ i, i < n → ∃ b off, ao = some ⟨b, off, none⟩ ∧ b < w.heap.size ∧ w.cell? ⟨b, off + i, none⟩ = some (.bool (bs i))
theorem BRow.below {w w' : World} {ao : Option Addr} {n : Nat} {bs : Nat → Bool} (h : BRow w ao n bs) (hb : Below w.heap.size w w') : BRow w' ao n bs := by
  intro i hi
  obtain ⟨b, off, e, hlt, h0⟩ := h i hi
  exact ⟨b, off, e, Nat.lt_of_lt_of_le hlt hb.size, (hb.cell (by exact hlt)).trans h0⟩
theorem below_trans {a b c : World} (h : Below a.heap.size a b) (k : Below b.heap.size b c) : Below a.heap.size a c := h.trans (k.mono h.size)
theorem brow_of {w : World} {g n : Nat} {bs : Nat → Bool} (h : w.rowIs g 4 n (fun p => .bool (bs p))) : BRow w (some ⟨g, 0, none⟩) n bs :=
  fun i hi => ⟨g, 0, rfl, h.lt, by rw [Nat.zero_add]; exact h.cell hi⟩

theorem clone_nil (n c : Nat) (w : World) : Calls Try.prog 6 #[.slice none n c] w fun e w' => e = .returned (.slice none 0 0) ∧ w = w' := by
  have h0 : ∀ w, (binOp .eql 22 (.slice none n c) (.slice none 0 0)).run Try.prog w = .ok (.bool true) w := fun w => Lib.run_eql_slice_nil (P := Try.prog) w 22 4 none n c 0 0 Try.underlying22
  go_enter Try.func6, Try.ntmps6
  go_wp2
  go_ret
  exact ⟨rfl, rfl⟩

set_option maxHeartbeats 1000000 in
theorem clone_any (a : Addr) (n c : Nat) (hn : n ≤ 1048576) (bs : Nat → Bool) (w : World) (h : BRow w (some a) n bs) :
    Calls Try.prog 6 #[.slice (some a) n c] w fun e w' => e = .returned (.slice (some ⟨w.heap.size, 0, none⟩) n n) ∧ w'.rowIs w.heap.size 4 n (fun p => .bool (bs p)) ∧ Below w.heap.size w w' := by
  have h0 : ∀ w, (binOp .eql 22 (.slice (some a) n c) (.slice none 0 0)).run Try.prog w = .ok (.bool false) w := fun w => Lib.run_eql_slice_nil (P := Try.prog) w 22 4 (some a) n c 0 0 Try.underlying22
  have hmk := run_make_row' (P := Try.prog) 22 4 (.bool false) 1 Try.underlying22 Try.info4b rfl .i64 .i64 n (by omega) (by omega)
  go_enter Try.func6, Try.ntmps6
  go_wp2
  have hr0 := World.rowIs_made w (.bool false) n 4
  have hb0 : Below w.heap.size w (w.alloc (.cells (madeCells #[.bool false] n) 4)) := (Below.refl _ _).alloc (Nat.le_refl _) _
  generalize w.alloc (.cells (madeCells #[.bool false] n) 4) = W at *
  clear h0 hmk
  generalize hB : w.heap.size = B at *
  have HB : Hid (w.heap.size = B) := hB
  clear hB
  go_loopw [4] (fun i wr => ∃ k : Nat, k ≤ n ∧ i = .int .i64 k ∧ wr.rowIs B 4 n (fun p => .bool (if p < k then bs p else false)) ∧ Below B w wr) (fun i _ => n - (intOf i).toNat)
  case atStart => exact ⟨0, Nat.zero_le _, rfl, hr0.congr fun p _ => by simp, hb0⟩
  case round =>
    clear hr0 hb0
    obtain ⟨k, hk, rfl, hrow, hbel⟩ := hrel
    have HR : Hid (wr.rowIs B 4 n (fun p => .bool (if p < k then bs p else false))) := hrow
    have HBl : Hid (Below B w wr) := hbel
    by_cases hlt : k < n
    · obtain ⟨b, off, e, hb, c0⟩ := h k hlt
      simp only [Option.some.injEq] at e
      subst e
      have hbB : b < B := by rw [← HB.out]; exact hb
      have c1 := (hbel.cell (p := ⟨b, off + k, none⟩) hbB).trans c0
      obtain ⟨v0, d0⟩ : ∃ v, wr.cell? ⟨B, k, none⟩ = some v := ⟨_, hrow.cell hlt⟩
      have d1 := hrow.frozen k
      clear hrow hbel h c0 hb
      go_wp2
      go_roundw
      case rel =>
        refine ⟨k + 1, by omega, by go_num, (HR.out.set k _).congr fun p _ => ?_, HBl.out.setCell (Nat.le_refl _) _⟩
        show (if p = k then Value.bool (bs k) else .bool (if p < k then bs p else false)) = _
        by_cases e : p = k
        · subst e
          rw [if_pos rfl, if_pos (by omega)]
        · rw [if_neg e]
          by_cases e2 : p < k
          · rw [if_pos e2, if_pos (by omega)]
          · rw [if_neg e2, if_neg (by omega)]
      case measure => simp [intOf]; omega
    · have hkn : k = n := by omega
      subst hkn
      clear hrow hbel h
      go_wp2
      go_ret
      exact ⟨by rw [HB.out]; rfl, by rw [HB.out]; exact HR.out.congr fun p hp => by rw [if_pos hp], by rw [HB.out]; exact HBl.out⟩

end Go.Proofs.Qxb6627957a
