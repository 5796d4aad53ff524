import GoSem.Op.String
namespace Go.Proofs.Qxb6627988a

/-! The plain mathematics of seat b6627988a: the first name that equals the query; no Go program in sight. -/

def same (a b : ByteArray) : Bool := a.toList == b.toList
/-- The first i < n at which p says yes. -/
def firstB (p : Nat → Bool) : Nat → Option Nat
  | 0 => none
  | n + 1 => match firstB p n with
    | some i => some i
    | none => if p n then some n else none

theorem firstB_none {p : Nat → Bool} {n : Nat} (h : ∀ i, i < n → p i = false) : firstB p n = none := by
  induction n with
  | zero => rfl
  | succ n ih =>
    simp only [firstB, ih fun i hi => h i (by omega)]
    rw [h n (by omega)]
    rfl
theorem firstB_some {p : Nat → Bool} {n k : Nat} (hk : k < n) (h : ∀ i, i < k → p i = false) (hp : p k = true) : firstB p n = some k := by
  induction n with
  | zero => omega
  | succ n ih =>
    by_cases e : k = n
    · subst e
      simp only [firstB, firstB_none h, hp, if_true]
    · simp only [firstB, ih (by omega)]
theorem firstB_none_iff {p : Nat → Bool} {n : Nat} (h : firstB p n = none) : ∀ i, i < n → p i = false := by
  induction n with
  | zero => intro i hi; omega
  | succ n ih =>
    intro i hi
    simp only [firstB] at h
    cases h1 : firstB p n with
    | some j => rw [h1] at h; cases h
    | none =>
      rw [h1] at h
      by_cases e : i = n
      · subst e
        cases h2 : p i with
        | false => rfl
        | true => simp [h2] at h
      · exact ih h1 i (by omega)
theorem firstB_some_iff {p : Nat → Bool} {n k : Nat} (h : firstB p n = some k) : k < n ∧ p k = true ∧ ∀ i, i < k → p i = false := by
  induction n with
  | zero => cases h
  | succ n ih =>
    simp only [firstB] at h
    cases h1 : firstB p n with
    | some j =>
      rw [h1] at h
      simp only [Option.some.injEq] at h
      subst h
      have := ih h1
      exact ⟨by omega, this.2⟩
    | none =>
      rw [h1] at h
      cases h2 : p n with
      | false => simp [h2] at h
      | true =>
        simp only [h2, if_true, Option.some.injEq] at h
        subst h
        exact ⟨by omega, h2, firstB_none_iff h1⟩

/-- The cut: the first of the whole is the first of the left part, or else the first of the right part. -/
theorem first_cut (p : Nat → Bool) (n k : Nat) (hk : k ≤ n) : firstB p n = match firstB p k with | some i => some i | none => (firstB (fun i => p (k + i)) (n - k)).map (k + ·) := by
  cases h1 : firstB p k with
  | some i =>
    obtain ⟨a, b, c⟩ := firstB_some_iff h1
    exact firstB_some (by omega) c b
  | none =>
    have hno := firstB_none_iff h1
    cases h2 : firstB (fun i => p (k + i)) (n - k) with
    | some j =>
      obtain ⟨a, b, c⟩ := firstB_some_iff h2
      show firstB p n = some (k + j)
      refine firstB_some (by omega) (fun i hi => ?_) b
      by_cases e : i < k
      · exact hno i e
      · have := c (i - k) (by omega)
        rwa [show k + (i - k) = i by omega] at this
    | none =>
      have hno2 := firstB_none_iff h2
      refine firstB_none fun i hi => ?_
      by_cases e : i < k
      · exact hno i e
      · have := hno2 (i - k) (by omega)
        rwa [show k + (i - k) = i by omega] at this

end Go.Proofs.Qxb6627988a
