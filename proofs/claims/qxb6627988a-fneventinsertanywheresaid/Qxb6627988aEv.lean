import Derived.Test.Qxb6627988aProg
import Derived.Test.Qxb6627988aPlain
import Derived.WalkKit
import Derived.WalkLawsBesides
import Derived.WalkSpells
import Derived.Deep.OwnRows
namespace Go.Proofs.Qxb6627988a
open Go.RowKit

/-- It returns a Bool. -/
def RetB (e : Ending) : Prop := ∃ r : Bool, e = .returned (.bool r)
theorem RetB.mk {e : Ending} (r : Bool) (h : e = .returned (.bool r)) : RetB e := ⟨r, h⟩

/-- A slice of strings: element i's cell. -/
def SRow (w : World) (ao : Option Addr) (n : Nat) (nm : Nat → ByteArray) : Prop :=
  ∀ i, i < n → ∃ b off, ao = some ⟨b, off, none⟩ ∧ b < w.heap.size ∧ w.cell? ⟨b, off + i, none⟩ = some (.string (nm i))
theorem SRow.below {w w' : World} {ao : Option Addr} {n : Nat} {nm : Nat → ByteArray} (h : SRow w ao n nm) (hb : Below w.heap.size w w') : SRow w' ao n nm := by
  intro i hi
  obtain ⟨b, off, e, hlt, h0⟩ := h i hi
  exact ⟨b, off, e, Nat.lt_of_lt_of_le hlt hb.size, (hb.cell (by exact hlt)).trans h0⟩
theorem below_trans {a b c : World} (h : Below a.heap.size a b) (k : Below b.heap.size b c) : Below a.heap.size a c := h.trans (k.mono h.size)

/-- A slice of pointers to events: element i points to block A i, whose first cell is the name. -/
def ERow (w : World) (ao : Option Addr) (n : Nat) (A : Nat → Nat) (nm : Nat → ByteArray) : Prop :=
  ∀ i, i < n → ∃ b off, ao = some ⟨b, off, none⟩ ∧ b < w.heap.size ∧ A i < w.heap.size ∧ w.cell? ⟨b, off + i, none⟩ = some (.pointer (some ⟨A i, 0, none⟩)) ∧ w.cell? ⟨A i, 0, none⟩ = some (.string (nm i))
theorem ERow.below {w w' : World} {ao : Option Addr} {n : Nat} {A : Nat → Nat} {nm : Nat → ByteArray} (h : ERow w ao n A nm) (hb : Below w.heap.size w w') : ERow w' ao n A nm := by
  intro i hi
  obtain ⟨b, off, e, hlt, hA, h0, h1⟩ := h i hi
  exact ⟨b, off, e, Nat.lt_of_lt_of_le hlt hb.size, Nat.lt_of_lt_of_le hA hb.size, (hb.cell (by exact hlt)).trans h0, (hb.cell (by exact hA)).trans h1⟩

/-- The pointer that is found. -/
def ptr (A : Nat → Nat) : Option Nat → Value
  | none => .pointer none
  | some i => .pointer (some ⟨A i, 0, none⟩)

set_option maxHeartbeats 1000000 in
theorem event_any (PB : Nat) (q : ByteArray) (ao : Option Addr) (n c : Nat) (hn : n ≤ 1048576) (A : Nat → Nat) (nm : Nat → ByteArray) (w : World) (hp : w.cell? ⟨PB, 5, none⟩ = some (.slice ao n c)) (h : ERow w ao n A nm) :
    Calls Try.prog 8 #[.pointer (some ⟨PB, 0, none⟩), .string q] w fun e w' => e = .returned (.tuple #[ptr A (firstB (fun i => same (nm i) q) n), .bool (firstB (fun i => same (nm i) q) n).isSome]) ∧ w = w' := by
  go_enter Try.func8, Try.ntmps8
  go_wp2
  go_loop [7, 13] (fun _ i => ∃ k : Nat, k ≤ n ∧ i = .int .i64 k ∧ ∀ j, j < k → same (nm j) q = false) (fun _ i => n - (intOf i).toNat)
  case atStart => exact ⟨0, Nat.zero_le _, rfl, fun j hj => by omega⟩
  case round =>
    obtain ⟨k, hk, rfl, hno⟩ := hrel
    have HN : Hid (∀ j, j < k → same (nm j) q = false) := hno
    clear hno
    by_cases hlt : k < n
    · obtain ⟨b, off, rfl, _, _, c0, c1⟩ := h k hlt
      cases hs : same (nm k) q with
      | true =>
        have hq : ((nm k).toList == q.toList) = true := hs
        have HF : Hid (firstB (fun i => same (nm i) q) n = some k) := firstB_some hlt HN.out hs
        clear h hs
        go_wp2
        go_ret2
        exact ⟨by rw [HF.out]; rfl, rfl⟩
      | false =>
        have hq : ((nm k).toList == q.toList) = false := hs
        have HS : Hid (same (nm k) q = false) := hs
        clear h hs
        go_wp2
        go_round
        case rel =>
          refine ⟨k + 1, by omega, by go_num, fun j hj => ?_⟩
          by_cases e : j = k
          · rw [e]; exact HS.out
          · exact HN.out j (by omega)
        case measure => simp [intOf]; omega
    · have HF : Hid (firstB (fun i => same (nm i) q) n = none) := firstB_none fun i hi => HN.out i (by omega)
      clear h
      go_wp2
      go_ret2
      exact ⟨by rw [HF.out]; rfl, rfl⟩

set_option maxHeartbeats 1000000 in
theorem has_any (q : ByteArray) (ao : Option Addr) (n c : Nat) (hn : n ≤ 1048576) (nm : Nat → ByteArray) (w : World) (h : SRow w ao n nm) :
    Calls Try.prog 9 #[.slice ao n c, .string q] w fun e w' => e = .returned (.bool (firstB (fun i => same (nm i) q) n).isSome) ∧ w = w' := by
  go_enter Try.func9, Try.ntmps9
  go_wp2
  go_loop [5] (fun i => ∃ k : Nat, k ≤ n ∧ i = .int .i64 k ∧ ∀ j, j < k → same (nm j) q = false) (fun i => n - (intOf i).toNat)
  case atStart => exact ⟨0, Nat.zero_le _, rfl, fun j hj => by omega⟩
  case round =>
    obtain ⟨k, hk, rfl, hno⟩ := hrel
    have HN : Hid (∀ j, j < k → same (nm j) q = false) := hno
    clear hno
    by_cases hlt : k < n
    · obtain ⟨b, off, rfl, _, c0⟩ := h k hlt
      cases hs : same (nm k) q with
      | true =>
        have hq : ((nm k).toList == q.toList) = true := hs
        have HF : Hid (firstB (fun i => same (nm i) q) n = some k) := firstB_some hlt HN.out hs
        clear h hs
        go_wp2
        go_ret
        exact ⟨by rw [HF.out]; rfl, rfl⟩
      | false =>
        have hq : ((nm k).toList == q.toList) = false := hs
        have HS : Hid (same (nm k) q = false) := hs
        clear h hs
        go_wp2
        go_round
        case rel =>
          refine ⟨k + 1, by omega, by go_num, fun j hj => ?_⟩
          by_cases e : j = k
          · rw [e]; exact HS.out
          · exact HN.out j (by omega)
        case measure => simp [intOf]; omega
    · have HF : Hid (firstB (fun i => same (nm i) q) n = none) := firstB_none fun i hi => HN.out i (by omega)
      clear h
      go_wp2
      go_ret
      exact ⟨by rw [HF.out]; rfl, rfl⟩

set_option maxHeartbeats 1000000 in
theorem sizeOK_any (p q o : ByteArray) (ao : Option Addr) (n c : Nat) (hn : n ≤ 1048576) (nm : Nat → ByteArray) (w : World) (h : SRow w ao n nm) :
    Calls Try.prog 6 #[.string p, .string q, .string o, .slice ao n c] w fun e w' => RetB e ∧ w = w' := by
  go_enter Try.func6, Try.ntmps6
  go_wp2
  all_goals try (go_ret; exact ⟨.mk false rfl, rfl⟩)
  go_loop [9, 10] (fun t i => ∃ (k : Nat) (z : Int), k ≤ n ∧ i = .int .i64 k ∧ t = .int .i64 z) (fun _ i => n - (intOf i).toNat)
  case atStart => exact ⟨0, _, Nat.zero_le _, rfl, rfl⟩
  case round =>
    obtain ⟨k, z, hk, rfl, rfl⟩ := hrel
    by_cases hlt : k < n
    · obtain ⟨b, off, rfl, _, c0⟩ := h k hlt
      clear h
      go_wp2
      · go_ret
        exact ⟨.mk false rfl, rfl⟩
      · go_round
        case rel => exact ⟨k + 1, _, by omega, by go_num, rfl⟩
        case measure => simp [intOf]; omega
    · clear h
      go_wp2
      go_ret
      exact ⟨.mk true rfl, rfl⟩

set_option maxHeartbeats 2000000 in
theorem zz5_any (p q : ByteArray) (id ver kk : Int) (ao : Option Addr) (n c : Nat) (nm : Nat → ByteArray) (w : World) (h : SRow w ao n nm) :
    Calls Try.prog 5 #[.string p, .int .u16 id, .int .i64 ver, .slice ao n c, .string q, .int .i64 kk] w fun e w' => RetB e ∧ w = w' := by
  by_cases hbig : 1048576 < n
  · go_enter Try.func5, Try.ntmps5
    go_wp2
    all_goals (go_ret; exact ⟨.mk false rfl, rfl⟩)
  go_enter Try.func5, Try.ntmps5
  go_wp2
  all_goals try (go_ret; exact ⟨.mk false rfl, rfl⟩)
  go_loop [13, 14] (fun t i => ∃ (k : Nat) (z : Int), k ≤ n ∧ i = .int .i64 k ∧ t = .int .i64 z) (fun _ i => n - (intOf i).toNat)
  case atStart => exact ⟨0, _, Nat.zero_le _, rfl, rfl⟩
  case round =>
    obtain ⟨k, z, hk, rfl, rfl⟩ := hrel
    by_cases hlt : k < n
    · obtain ⟨b, off, rfl, _, c0⟩ := h k hlt
      clear h
      go_wp2
      · go_ret
        exact ⟨.mk false rfl, rfl⟩
      · go_ret
        exact ⟨.mk false rfl, rfl⟩
      · go_round
        case rel => exact ⟨k + 1, _, by omega, by go_num, rfl⟩
        case measure => simp [intOf]; omega
    · clear h
      go_wp2
      all_goals first | (go_ret; exact ⟨.mk false rfl, rfl⟩) | (go_ret; exact ⟨.mk true rfl, rfl⟩)

set_option maxHeartbeats 2000000 in
theorem zz10_any (p q o : ByteArray) (id ver kk : Int) (ao : Option Addr) (n c : Nat) (nm : Nat → ByteArray) (w : World) (h : SRow w ao n nm) :
    Calls Try.prog 10 #[.string p, .int .u16 id, .int .i64 ver, .slice ao n c, .string q, .string o, .int .i64 kk] w fun e w' => RetB e ∧ w = w' := by
  by_cases hbig : 1048576 < n
  · go_enter Try.func10, Try.ntmps10
    go_wp2
    all_goals (go_ret; exact ⟨.mk false rfl, rfl⟩)
  go_enter Try.func10, Try.ntmps10
  go_wp2
  all_goals try (go_ret; exact ⟨.mk false rfl, rfl⟩)
  go_loop [15, 16] (fun t i => ∃ (k : Nat) (z : Int), k ≤ n ∧ i = .int .i64 k ∧ t = .int .i64 z) (fun _ i => n - (intOf i).toNat)
  case atStart => exact ⟨0, _, Nat.zero_le _, rfl, rfl⟩
  case round =>
    obtain ⟨k, z, hk, rfl, rfl⟩ := hrel
    by_cases hlt : k < n
    · obtain ⟨b, off, rfl, _, c0⟩ := h k hlt
      clear h
      go_wp2
      · go_ret
        exact ⟨.mk false rfl, rfl⟩
      · go_ret
        exact ⟨.mk false rfl, rfl⟩
      · go_round
        case rel => exact ⟨k + 1, _, by omega, by go_num, rfl⟩
        case measure => simp [intOf]; omega
    · clear h
      go_wp2
      all_goals first | (go_ret; exact ⟨.mk false rfl, rfl⟩) | (go_ret; exact ⟨.mk true rfl, rfl⟩)

theorem Try.info34 : (Try.prog.info? 34).map (fun i => (i.zero, i.size, i.bytes)) = some (some (.pointer none), 1, 8) := by kernel_rfl

/-- what has been built: block E the row of pointers, block E + 1 + p the event p -/
structure Built (w : World) (E n k : Nat) (nm : Nat → ByteArray) : Prop where
  size : w.heap.size = E + 1 + k
  row : w.rowIs E 34 n (fun p => if p < k then .pointer (some ⟨E + 1 + p, 0, none⟩) else .pointer none)
  ev : ∀ p, p < k → w.cell? ⟨E + 1 + p, 0, none⟩ = some (.string (nm p))

theorem Built.erow {w : World} {E n : Nat} {nm : Nat → ByteArray} (h : Built w E n n nm) : ERow w (some ⟨E, 0, none⟩) n (fun p => E + 1 + p) nm := by
  intro i hi
  have h1 := h.size
  refine ⟨E, 0, rfl, by omega, by show E + 1 + i < w.heap.size; omega, ?_, h.ev i hi⟩
  have := h.row.cell hi
  rw [if_pos hi] at this
  rwa [Nat.zero_add]
theorem Built.step {w : World} {E n k : Nat} {nm : Nat → ByteArray} (h : Built w E n k nm) (hk : k < n) :
    Built ((w.alloc (.cells #[.string (nm k)] 39)).setCell ⟨E, k, none⟩ (.pointer (some ⟨w.heap.size, 0, none⟩))) E n (k + 1) nm := by
  have hs := h.size
  refine ⟨by rw [World.setCell, Array.size_modify]; simp; omega, ?_, fun p hp => ?_⟩
  · rw [hs]
    refine ((h.row.alloc _).set k _).congr fun p _ => ?_
    show (if p = k then Value.pointer (some ⟨E + 1 + k, 0, none⟩) else if p < k then .pointer (some ⟨E + 1 + p, 0, none⟩) else .pointer none) = _
    by_cases e : p = k
    · subst e
      rw [if_pos rfl, if_pos (by omega)]
    · rw [if_neg e]
      by_cases e2 : p < k
      · rw [if_pos e2, if_pos (by omega)]
      · rw [if_neg e2, if_neg (by omega)]
  · rw [World.cell?_of_block (w := w.alloc (.cells #[.string (nm k)] 39)) (Below.heap_setCell _ _ _ _ (by show E + 1 + p ≠ E; omega))]
    by_cases e : p = k
    · subst e
      rw [← hs]
      go_simp
    · rw [World.cell?_of_block (w := w) (Below.heap_alloc _ _ _ (by show E + 1 + p < w.heap.size; omega))]
      exact h.ev p (by omega)

/-- the sixth cell of a new package -/
theorem pkg_cell (w : World) (p : ByteArray) (id ver : Int) (v : Value) :
    (w.alloc (.cells #[.string p, .int .u16 id, .int .i64 ver, .slice none 0 0, .slice none 0 0, v] 33)).cell? ⟨w.heap.size, 5, none⟩ = some v := by go_simp
theorem size_alloc (w : World) (o : Obj) : w.heap.size < (w.alloc o).heap.size := by simp
theorem below_alloc (w : World) (o : Obj) : Below w.heap.size w (w.alloc o) := (Below.refl _ _).alloc (Nat.le_refl _) _

set_option maxHeartbeats 1000000 in
theorem build_any (p : ByteArray) (id ver : Int) (ao : Option Addr) (n c : Nat) (hn : n ≤ 1048576) (nm : Nat → ByteArray) (w : World) (h : SRow w ao n nm) :
    Calls Try.prog 7 #[.string p, .int .u16 id, .int .i64 ver, .slice ao n c] w fun e w' => ∃ PB, e = .returned (.tuple #[.pointer (some ⟨PB, 0, none⟩), .slice (some ⟨w.heap.size, 0, none⟩) n n]) ∧
      PB < w'.heap.size ∧ w'.cell? ⟨PB, 5, none⟩ = some (.slice (some ⟨w.heap.size, 0, none⟩) n n) ∧ ERow w' (some ⟨w.heap.size, 0, none⟩) n (fun p => w.heap.size + 1 + p) nm ∧ Below w.heap.size w w' := by
  have hmk := run_make_row' (P := Try.prog) 27 34 (.pointer none) 8 Try.underlying27 Try.info34 rfl .i64 .i64 n (by omega) (by omega)
  go_enter Try.func7, Try.ntmps7
  go_wp2
  have hB0 : Built (w.alloc (.cells (madeCells #[.pointer none] n) 34)) w.heap.size n 0 nm := ⟨by simp, World.rowIs_made w (.pointer none) n 34, fun p hp => by omega⟩
  have hb0 : Below w.heap.size w (w.alloc (.cells (madeCells #[.pointer none] n) 34)) := (Below.refl _ _).alloc (Nat.le_refl _) _
  generalize w.alloc (.cells (madeCells #[.pointer none] n) 34) = W at *
  clear hmk
  generalize hE : w.heap.size = E at *
  have HE : Hid (w.heap.size = E) := hE
  clear hE
  go_loopw [11] (fun i wr => ∃ k : Nat, k ≤ n ∧ i = .int .i64 k ∧ Built wr E n k nm ∧ Below E w wr) (fun i _ => n - (intOf i).toNat)
  case atStart => exact ⟨0, Nat.zero_le _, rfl, hB0, hb0⟩
  case round =>
    clear hB0 hb0
    obtain ⟨k, hk, rfl, hbu, hbel⟩ := hrel
    have HBu : Hid (Built wr E n k nm) := hbu
    have HBl : Hid (Below E w wr) := hbel
    by_cases hlt : k < n
    · obtain ⟨b, off, rfl, hb, c0⟩ := h k hlt
      have hbE : b < E := by rw [← HE.out]; exact hb
      have c1 := (hbel.cell (p := ⟨b, off + k, none⟩) hbE).trans c0
      obtain ⟨v0, d0⟩ : ∃ v, wr.cell? ⟨E, k, none⟩ = some v := ⟨_, hbu.row.cell hlt⟩
      have d1 := hbu.row.frozen k
      have hsz : E + 1 ≤ wr.heap.size := by have := hbu.size; omega
      have d0' : ∀ o, (wr.alloc o).cell? ⟨E, k, none⟩ = some v0 := fun o => by rw [World.cell?_of_block (w := wr) (Below.heap_alloc _ _ _ (by show E < _; omega))]; exact d0
      have d1' : ∀ o, (wr.alloc o).frozen? ⟨E, k, none⟩ = false := fun o => by rw [World.frozen?_of_block (w := wr) (Below.heap_alloc _ _ _ (by show E < _; omega))]; exact d1
      clear d0 d1
      clear hbu hbel h c0 hb
      go_wp2
      go_roundw
      case rel => exact ⟨k + 1, by omega, by go_num, HBu.out.step hlt, (HBl.out.alloc (by omega) _).setCell (Nat.le_refl _) _⟩
      case measure => simp [intOf]; omega
    · have hkn : k = n := by omega
      subst hkn
      clear h hbu hbel
      go_wp2
      go_ret2
      rw [HE.out]
      refine ⟨wr.heap.size, rfl, size_alloc _ _, pkg_cell _ _ _ _ _, HBu.out.erow.below (below_alloc _ _), HBl.out.alloc ?_ _⟩
      have := HBu.out.size
      omega
end Go.Proofs.Qxb6627988a
