import Derived.Test.Qxb6627957aPlain
namespace Go.Proofs.Qxb6627957a

/-! ### nothing lies in a span behind the line's end -/
theorem runs_in (t : Nat → Bool) (n : Nat) (hn : ∀ j, n ≤ j → t j = false) : ∀ f i, n - i = f → ∀ x ∈ runs t n i, x.1 + x.2 ≤ n := by
  intro f
  induction f using Nat.strongRecOn with
  | ind f ih =>
    intro i hf x hx
    by_cases hi : n ≤ i
    · rw [runs_end t n hi] at hx
      cases hx
    · cases ht : t i with
      | false =>
        rw [runs_no t n (by omega) ht] at hx
        exact ih (n - (i + 1)) (by omega) (i + 1) rfl x hx
      | true =>
        have hle := run_le t n i
        have hpos : 1 ≤ run t n i := by rw [run_yes t n (by omega) ht]; omega
        rw [runs_yes t n hn ht] at hx
        rcases List.mem_cons.1 hx with rfl | hx
        · show i + run t n i ≤ n
          omega
        · exact ih (n - (i + run t n i)) (by omega) _ rfl x hx
theorem cut_mem {o : Nat} {l : List (Nat × Nat)} {s : Nat} {r : List (Nat × Nat)} (h : cut o l = some (s, r)) : (s, o) ∈ l ∧ ∀ x ∈ r, x ∈ l := by
  induction l with
  | nil => simp [cut] at h
  | cons y l ih =>
    simp only [cut] at h
    split at h
    · next e =>
      simp only [Option.some.injEq, Prod.mk.injEq] at h
      obtain ⟨rfl, rfl⟩ := h
      refine ⟨?_, fun x hx => List.mem_cons_of_mem _ hx⟩
      rw [← e]
      exact List.mem_cons_self
    · obtain ⟨h1, h2⟩ := ih h
      exact ⟨List.mem_cons_of_mem _ h1, fun x hx => List.mem_cons_of_mem _ (h2 x hx)⟩
theorem cov_past {n : Nat} : ∀ (f : Nat) (l : List (Nat × Nat)), l.length = f → (∀ x ∈ l, x.1 + x.2 ≤ n) → ∀ p, n ≤ p → cov l p = false := by
  intro f
  induction f using Nat.strongRecOn with
  | ind f ih =>
    intro l hl hall p hp
    cases l with
    | nil => rfl
    | cons x r =>
      simp only [List.length_cons] at hl
      cases hc : cut x.2 r with
      | none =>
        rw [cov_none hc]
        exact ih r.length (by omega) r rfl (fun y hy => hall y (List.mem_cons_of_mem _ hy)) p hp
      | some y =>
        obtain ⟨s, r'⟩ := y
        obtain ⟨h1, h2⟩ := cut_mem hc
        have h3 := hall (s, x.2) (List.mem_cons_of_mem _ h1)
        have h4 := cut_length hc
        rw [cov_some hc, ih r'.length (by omega) r' rfl (fun y hy => hall y (List.mem_cons_of_mem _ (h2 y hy))) p hp]
        have : ¬ p < s + x.2 := by
          have : s + x.2 ≤ n := h3
          omega
        simp [this]
theorem cov_end (t : Nat → Bool) (n : Nat) (hn : ∀ j, n ≤ j → t j = false) (p : Nat) (hp : n ≤ p) : cov (runs t n 0) p = false :=
  cov_past _ _ rfl (runs_in t n hn _ 0 rfl) p hp

end Go.Proofs.Qxb6627957a
