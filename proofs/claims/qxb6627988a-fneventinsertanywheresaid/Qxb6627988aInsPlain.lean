import Derived.Test.Qxb6627988aPlain
namespace Go.Proofs.Qxb6627988a

/-! The plain mathematics of the insertion. -/

/-- The sequence f with x put in at pos. -/
def insF {α : Type} (f : Nat → α) (x : α) (pos i : Nat) : α := if i < pos then f i else if i = pos then x else f (i - 1)
theorem insF_lt {α : Type} {f : Nat → α} {x : α} {pos i : Nat} (h : i < pos) : insF f x pos i = f i := by simp [insF, h]
theorem insF_eq {α : Type} {f : Nat → α} {x : α} {pos : Nat} : insF f x pos pos = x := by simp [insF]
theorem insF_gt {α : Type} {f : Nat → α} {x : α} {pos i : Nat} (h : pos ≤ i) : insF f x pos (i + 1) = f i := by
  unfold insF
  rw [if_neg (by omega), if_neg (by omega)]
  rfl

theorem first_ins_no (p : Nat → Bool) (n pos : Nat) (hp : pos ≤ n) : firstB (insF p false pos) (n + 1) = (firstB p n).map (fun i => if i < pos then i else i + 1) := by
  cases h : firstB p n with
  | none =>
    have hno := firstB_none_iff h
    refine firstB_none fun i hi => ?_
    by_cases e : i < pos
    · rw [insF_lt e]; exact hno i (by omega)
    · by_cases e2 : i = pos
      · rw [e2, insF_eq]
      · obtain ⟨m, rfl⟩ : ∃ m, i = m + 1 := ⟨i - 1, by omega⟩
        rw [insF_gt (by omega)]
        exact hno m (by omega)
  | some j =>
    obtain ⟨h1, h2, h3⟩ := firstB_some_iff h
    show _ = some (if j < pos then j else j + 1)
    by_cases e : j < pos
    · rw [if_pos e]
      exact firstB_some (by omega) (fun i hi => by rw [insF_lt (by omega)]; exact h3 i hi) (by rw [insF_lt e]; exact h2)
    · rw [if_neg e]
      refine firstB_some (by omega) (fun i hi => ?_) (by rw [insF_gt (by omega)]; exact h2)
      by_cases e1 : i < pos
      · rw [insF_lt e1]; exact h3 i (by omega)
      · by_cases e2 : i = pos
        · rw [e2, insF_eq]
        · obtain ⟨m, rfl⟩ : ∃ m, i = m + 1 := ⟨i - 1, by omega⟩
          rw [insF_gt (by omega)]
          exact h3 m (by omega)
theorem first_ins_yes_some (p : Nat → Bool) (n pos j : Nat) (hp : pos ≤ n) (h : firstB p pos = some j) : firstB (insF p true pos) (n + 1) = some j := by
  obtain ⟨h1, h2, h3⟩ := firstB_some_iff h
  exact firstB_some (by omega) (fun i hi => by rw [insF_lt (by omega)]; exact h3 i hi) (by rw [insF_lt h1]; exact h2)
theorem first_ins_yes_none (p : Nat → Bool) (n pos : Nat) (hp : pos ≤ n) (h : firstB p pos = none) : firstB (insF p true pos) (n + 1) = some pos := by
  have hno := firstB_none_iff h
  exact firstB_some (by omega) (fun i hi => by rw [insF_lt hi]; exact hno i hi) insF_eq

theorem same_ins (nm : Nat → ByteArray) (o q : ByteArray) (pos : Nat) : (fun i => same (insF nm o pos i) q) = insF (fun i => same (nm i) q) (same o q) pos := by
  funext i
  unfold insF
  split
  · rfl
  · split <;> rfl

end Go.Proofs.Qxb6627988a
