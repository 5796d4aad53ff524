import Derived.Test.Qxb6627919aProg
import Derived.Test.Qxb6627919aPlain
import Derived.WalkKit
import Derived.WalkLawsBesides
import Derived.WalkSpells
import Derived.Deep.QuietTactic
import Derived.BigQuiet
import Derived.Deep.RegionHeld3
import Derived.Deep.DrawnRows
namespace Go.Proofs.Qxb6627919a
open Go.RowKit

theorem keyLess_any (n m : Int) (s t : ByteArray) (w : World) :
    Calls Try.prog 14 #[.agg #[.int .i64 n, .string s], .agg #[.int .i64 m, .string t]] w fun e w' => e = .returned (.bool (keyLt (n, s) (m, t))) ∧ Below w.heap.size w w' := by
  by_cases h1 : n < m
  · have hk : keyLt (n, s) (m, t) = true := by simp [keyLt, h1]
    rw [hk]
    clear hk
    go_enter Try.func14, Try.ntmps14
    go_wp2
    go_ret
    exact ⟨rfl, ((Below.refl _ _).alloc (Nat.le_refl _) _).alloc (by simp) _⟩
  · by_cases h2 : (n == m) = true
    · have hk : keyLt (n, s) (m, t) = Op.bytesLess s.toList t.toList := by simp [keyLt, h1, h2]
      rw [hk]
      clear hk
      go_enter Try.func14, Try.ntmps14
      go_wp2
      go_ret
      exact ⟨rfl, ((Below.refl _ _).alloc (Nat.le_refl _) _).alloc (by simp) _⟩
    · have h2 : (n == m) = false := by simpa using h2
      have hk : keyLt (n, s) (m, t) = false := by simp [keyLt, h1, h2]
      rw [hk]
      clear hk
      go_enter Try.func14, Try.ntmps14
      go_wp2
      go_ret
      exact ⟨rfl, ((Below.refl _ _).alloc (Nat.le_refl _) _).alloc (by simp) _⟩

theorem less_any (n m : Int) (s t : ByteArray) (w : World) :
    Calls Try.prog 17 #[.agg #[.int .i64 n, .string s], .agg #[.int .i64 m, .string t]] w fun e w' => e = .returned (.bool (keyLt (n, s) (m, t))) ∧ Below w.heap.size w w' := by
  by_cases h1 : n < m
  · have hk : keyLt (n, s) (m, t) = true := by simp [keyLt, h1]
    rw [hk]
    clear hk
    go_enter Try.func17, Try.ntmps17
    go_wp2
    go_ret
    exact ⟨rfl, ((Below.refl _ _).alloc (Nat.le_refl _) _).alloc (by simp) _⟩
  · by_cases h2 : (n == m) = true
    · have hk : keyLt (n, s) (m, t) = Op.bytesLess s.toList t.toList := by simp [keyLt, h1, h2]
      rw [hk]
      clear hk
      go_enter Try.func17, Try.ntmps17
      go_wp2
      go_ret
      exact ⟨rfl, ((Below.refl _ _).alloc (Nat.le_refl _) _).alloc (by simp) _⟩
    · have h2 : (n == m) = false := by simpa using h2
      have hk : keyLt (n, s) (m, t) = false := by simp [keyLt, h1, h2]
      rw [hk]
      clear hk
      go_enter Try.func17, Try.ntmps17
      go_wp2
      go_ret
      exact ⟨rfl, ((Below.refl _ _).alloc (Nat.le_refl _) _).alloc (by simp) _⟩

theorem keyEq_any (n m : Int) (s t : ByteArray) (w : World) :
    Calls Try.prog 16 #[.agg #[.int .i64 n, .string s], .agg #[.int .i64 m, .string t]] w fun e w' => e = .returned (.bool (keySame (n, s) (m, t))) ∧ Below w.heap.size w w' := by
  by_cases h2 : (n == m) = true
  · have hk : keySame (n, s) (m, t) = (s.toList == t.toList) := by simp [keySame, h2]
    rw [hk]
    clear hk
    go_enter Try.func16, Try.ntmps16
    go_wp2
    go_ret
    exact ⟨rfl, ((Below.refl _ _).alloc (Nat.le_refl _) _).alloc (by simp) _⟩
  · have h2 : (n == m) = false := by simpa using h2
    have hk : keySame (n, s) (m, t) = false := by simp [keySame, h2]
    rw [hk]
    clear hk
    go_enter Try.func16, Try.ntmps16
    go_wp2
    go_ret
    exact ⟨rfl, ((Below.refl _ _).alloc (Nat.le_refl _) _).alloc (by simp) _⟩

/-- A row of keys behind a slice's address: key i's two cells. -/
def Row (w : World) (ao : Option Addr) (ks : List (Int × ByteArray)) : Prop :=
  ∀ i, i < ks.length → ∃ b off, ao = some ⟨b, off, none⟩ ∧ b < w.heap.size ∧ w.cell? ⟨b, off + i * 2, none⟩ = some (.int .i64 (ks.getD i (0, ByteArray.empty)).1) ∧
    w.cell? ⟨b, off + i * 2 + 1, none⟩ = some (.string (ks.getD i (0, ByteArray.empty)).2)

theorem Row.below {w w' : World} {ao : Option Addr} {ks : List (Int × ByteArray)} (h : Row w ao ks) (hb : Below w.heap.size w w') : Row w' ao ks := by
  intro i hi
  obtain ⟨b, off, e, hlt, h0, h1⟩ := h i hi
  exact ⟨b, off, e, Nat.lt_of_lt_of_le hlt hb.size, (hb.cell (by exact hlt)).trans h0, (hb.cell (by exact hlt)).trans h1⟩

theorem below_trans {a b c : World} (h : Below a.heap.size a b) (k : Below b.heap.size b c) : Below a.heap.size a c := h.trans (k.mono h.size)

theorem key_cell {w : World} {ao : Option Addr} {ks : List (Int × ByteArray)} (h : Row w ao ks) {i : Nat} (hi : i < ks.length) : ∃ b off, ao = some ⟨b, off, none⟩ ∧ b < w.heap.size ∧ w.cell? ⟨b, off + i * 2, none⟩ = some (.int .i64 (key ks i).1) ∧
    w.cell? ⟨b, off + i * 2 + 1, none⟩ = some (.string (key ks i).2) := h i hi

/-- a struct of two cells in a box of its own -/
theorem box_facts {w W : World} {a b : Value} {T : TypeId} (h : w.alloc (.cells #[a, b] T) = W) :
    W.heap.size = w.heap.size + 1 ∧ W.cell? ⟨w.heap.size, 0, none⟩ = some a ∧ W.cell? ⟨w.heap.size, 1, none⟩ = some b ∧ Below w.heap.size w W := by
  subst h
  exact ⟨by simp, by go_simp, by go_simp, (Below.refl _ _).alloc (Nat.le_refl _) _⟩

end Go.Proofs.Qxb6627919a
