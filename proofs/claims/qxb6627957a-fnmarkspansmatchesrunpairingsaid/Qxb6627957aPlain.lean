import GoSem.Op.String
namespace Go.Proofs.Qxb6627957a

/-! The plain mathematics of seat b6627957a: backtick runs of a line, and which bytes lie in spans; no Go program in sight.
    A line is told by t : Nat → Bool ('byte i is a backtick') and its length n. -/

section
variable (t : Nat → Bool) (n : Nat)

/-- The run from i on, with fuel. -/
def runF : Nat → Nat → Nat
  | 0, _ => 0
  | f + 1, i => if t i then runF f (i + 1) + 1 else 0
/-- How many backticks stand from i on (before n). -/
def run (i : Nat) : Nat := runF t (n - i) i

theorem run_end {i : Nat} (h : n ≤ i) : run t n i = 0 := by
  have e : n - i = 0 := by omega
  simp [run, e, runF]
theorem run_no {i : Nat} (h : t i = false) : run t n i = 0 := by
  unfold run
  cases n - i <;> simp [runF, h]
theorem run_yes {i : Nat} (hi : i < n) (h : t i = true) : run t n i = run t n (i + 1) + 1 := by
  have e : n - i = (n - (i + 1)) + 1 := by omega
  unfold run
  rw [e]
  simp [runF, h]
theorem run_le (i : Nat) : run t n i ≤ n - i := by
  have key : ∀ f i, runF t f i ≤ f := by
    intro f
    induction f with
    | zero => intro i; simp [runF]
    | succ f ih => intro i; simp only [runF]; split <;> have := ih (i + 1) <;> omega
  exact key _ _
theorem run_all {i j : Nat} (hj : j < run t n i) : t (i + j) = true := by
  induction j generalizing i with
  | zero =>
    cases h : t i with
    | true => rfl
    | false => rw [run_no t n h] at hj; omega
  | succ j ih =>
    have hi : i < n := by have := run_le t n i; omega
    cases h : t i with
    | true =>
      rw [run_yes t n hi h] at hj
      have := ih (i := i + 1) (by omega)
      rwa [show i + 1 + j = i + (j + 1) by omega] at this
    | false => rw [run_no t n h] at hj; omega
/-- The run ends where it ends. -/
theorem run_stop {i : Nat} (h : i + run t n i < n) : t (i + run t n i) = false := by
  have key : ∀ f i, n - i = f → i + run t n i < n → t (i + run t n i) = false := by
    intro f
    induction f with
    | zero => intro i hf h; omega
    | succ f ih =>
      intro i hf h
      cases ht : t i with
      | false => rw [run_no t n ht] at h ⊢; simpa using ht
      | true =>
        have hi : i < n := by omega
        rw [run_yes t n hi ht] at h ⊢
        have := ih (i + 1) (by omega) (by omega)
        rwa [show i + 1 + run t n (i + 1) = i + (run t n (i + 1) + 1) by omega] at this
  exact key _ i rfl h
/-- A run is known by its bytes. -/
theorem run_is {i r : Nat} (h : i + r ≤ n) (hall : ∀ j, j < r → t (i + j) = true) (hstop : i + r = n ∨ t (i + r) = false) : run t n i = r := by
  induction r generalizing i with
  | zero =>
    rcases hstop with h0 | h0
    · exact run_end t n (by omega)
    · exact run_no t n (by simpa using h0)
  | succ r ih =>
    have h0 := hall 0 (by omega)
    rw [run_yes t n (by omega) (by simpa using h0), ih (i := i + 1) (by omega) (fun j hj => by have := hall (j + 1) (by omega); rwa [show i + (j + 1) = i + 1 + j by omega] at this) (by rwa [show i + 1 + r = i + (r + 1) by omega])]

/-- The runs from i on, with fuel: each as its start and its length. -/
def runsF : Nat → Nat → List (Nat × Nat)
  | 0, _ => []
  | f + 1, i => if t i then (if t (i + 1) then (match runsF f (i + 1) with | [] => [(i, 1)] | x :: r => (i, x.2 + 1) :: r) else (i, 1) :: runsF f (i + 1)) else runsF f (i + 1)
def runs (i : Nat) : List (Nat × Nat) := runsF t (n - i) i

theorem runs_end {i : Nat} (h : n ≤ i) : runs t n i = [] := by
  have e : n - i = 0 := by omega
  simp [runs, e, runsF]
theorem runs_no {i : Nat} (hi : i < n) (h : t i = false) : runs t n i = runs t n (i + 1) := by
  have e : n - i = (n - (i + 1)) + 1 := by omega
  unfold runs
  rw [e]
  simp [runsF, h]
theorem runs_yes {i : Nat} (hn : ∀ j, n ≤ j → t j = false) (h : t i = true) : runs t n i = (i, run t n i) :: runs t n (i + run t n i) := by
  have key : ∀ f i, n - i = f → t i = true → runs t n i = (i, run t n i) :: runs t n (i + run t n i) := by
    intro f
    induction f with
    | zero =>
      intro i hf h
      have := hn i (by omega)
      rw [h] at this
      cases this
    | succ f ih =>
      intro i hf h
      have hi : i < n := by omega
      have e : n - i = (n - (i + 1)) + 1 := by omega
      rw [run_yes t n hi h]
      cases h1 : t (i + 1) with
      | true =>
        have := ih (i + 1) (by omega) h1
        unfold runs at this ⊢
        rw [e]
        simp only [runsF, h, h1, if_true]
        rw [this]
        simp only [List.cons.injEq, true_and]
        rw [show i + (run t n (i + 1) + 1) = i + 1 + run t n (i + 1) by omega]
      | false =>
        rw [run_no t n h1]
        unfold runs
        rw [e]
        simp [runsF, h, h1]
  exact key _ i rfl h
end

/-- The first run of length o in a list of runs: its start, and what follows. -/
def cut (o : Nat) : List (Nat × Nat) → Option (Nat × List (Nat × Nat))
  | [] => none
  | x :: r => if x.2 = o then some (x.1, r) else cut o r

theorem cut_length {o : Nat} {l : List (Nat × Nat)} {s : Nat} {r : List (Nat × Nat)} (h : cut o l = some (s, r)) : r.length < l.length := by
  induction l with
  | nil => simp [cut] at h
  | cons x l ih =>
    simp only [cut] at h
    split at h
    · simp at h
      simp [h.2]
    · have := ih h
      simp
      omega

/-- Which places lie in spans, given the runs; with fuel. -/
def covF : Nat → List (Nat × Nat) → Nat → Bool
  | 0, _, _ => false
  | _ + 1, [], _ => false
  | f + 1, x :: r, p => match cut x.2 r with
    | none => covF f r p
    | some y => (decide (x.1 ≤ p) && decide (p < y.1 + x.2)) || covF f y.2 p
def cov (l : List (Nat × Nat)) (p : Nat) : Bool := covF l.length l p

theorem covF_enough : ∀ (f : Nat) (l : List (Nat × Nat)) (p : Nat), l.length ≤ f → covF f l p = covF l.length l p := by
  intro f
  induction f using Nat.strongRecOn with
  | ind f ih =>
    intro l p hl
    cases f with
    | zero =>
      have : l.length = 0 := by omega
      rw [this]
    | succ f =>
      cases l with
      | nil => simp [covF]
      | cons x r =>
        simp only [List.length_cons] at hl
        show covF (f + 1) (x :: r) p = covF (r.length + 1) (x :: r) p
        simp only [covF]
        cases hc : cut x.2 r with
        | none =>
          simp only
          rw [ih f (by omega) r p (by omega)]
        | some y =>
          simp only
          have hy := cut_length hc
          rw [ih f (by omega) y.2 p (by omega)]
          by_cases e : r.length = f
          · rw [e, ih f (by omega) y.2 p (by omega)]
          · rw [ih r.length (by omega) y.2 p (by omega)]

theorem cov_nil (p : Nat) : cov [] p = false := rfl
theorem cov_none {x : Nat × Nat} {r : List (Nat × Nat)} (h : cut x.2 r = none) (p : Nat) : cov (x :: r) p = cov r p := by
  simp only [cov, List.length_cons, covF, h]
theorem cov_some {x : Nat × Nat} {r : List (Nat × Nat)} {s : Nat} {r' : List (Nat × Nat)} (h : cut x.2 r = some (s, r')) (p : Nat) : cov (x :: r) p = ((decide (x.1 ≤ p) && decide (p < s + x.2)) || cov r' p) := by
  simp only [cov, List.length_cons, covF, h]
  rw [covF_enough r.length r' p (by have := cut_length h; omega)]

/-! ### a line between two fences -/
theorem fence_cut {t : Nat → Bool} {N F : Nat} (hF : 1 ≤ F) (hN : 2 * F + 2 ≤ N) (hmid : ∀ a m, F ≤ a → a + m ≤ N - F → (∀ j, j < m → t (a + j) = true) → m < F) (hsp : t (N - F - 1) = false)
    (hlast : ∀ p, N - F ≤ p → p < N → t p = true) (hpast : ∀ p, N ≤ p → t p = false) : ∀ d j, N - F - j = d → F ≤ j → j ≤ N - F → cut F (runs t N j) = some (N - F, []) := by
  intro d
  induction d using Nat.strongRecOn with
  | ind d ih =>
    intro j hd h1 h2
    by_cases e : j = N - F
    · subst e
      have hr : run t N (N - F) = F := run_is t N (by omega) (fun j hj => hlast _ (by omega) (by omega)) (.inl (by omega))
      rw [runs_yes t N hpast (hlast _ (Nat.le_refl _) (by omega)), hr, runs_end t N (by omega)]
      simp [cut]
    · cases ht : t j with
      | false =>
        rw [runs_no t N (by omega) ht]
        exact ih (N - F - (j + 1)) (by omega) (j + 1) rfl (by omega) (by omega)
      | true =>
        have hle := run_le t N j
        have hin : j + run t N j ≤ N - F - 1 := by
          by_cases hc : j + run t N j ≤ N - F - 1
          · exact hc
          · have := run_all t N (i := j) (j := N - F - 1 - j) (by omega)
            rw [show j + (N - F - 1 - j) = N - F - 1 by omega, hsp] at this
            cases this
        have hlt := hmid j (run t N j) h1 (by omega) (fun k hk => run_all t N hk)
        have hpos : 1 ≤ run t N j := by rw [run_yes t N (by omega) ht]; omega
        rw [runs_yes t N hpast ht]
        simp only [cut]
        rw [if_neg (by omega)]
        exact ih (N - F - (j + run t N j)) (by omega) (j + run t N j) rfl (by omega) (by omega)

/-- Every place lies in the one span. -/
theorem fence_cov {t : Nat → Bool} {N F : Nat} (hF : 1 ≤ F) (hN : 2 * F + 2 ≤ N) (hfirst : ∀ p, p < F → t p = true) (hsp0 : t F = false)
    (hmid : ∀ a m, F ≤ a → a + m ≤ N - F → (∀ j, j < m → t (a + j) = true) → m < F) (hsp : t (N - F - 1) = false)
    (hlast : ∀ p, N - F ≤ p → p < N → t p = true) (hpast : ∀ p, N ≤ p → t p = false) (p : Nat) (hp : p < N) : cov (runs t N 0) p = true := by
  have hr : run t N 0 = F := run_is t N (by omega) (fun j hj => by rw [Nat.zero_add]; exact hfirst j hj) (.inr (by rw [Nat.zero_add]; exact hsp0))
  rw [runs_yes t N hpast (hfirst 0 (by omega)), hr, Nat.zero_add]
  rw [cov_some (x := (0, F)) (fence_cut hF hN hmid hsp hlast hpast _ F rfl (Nat.le_refl _) (by omega))]
  simp only [Nat.zero_le, decide_true, Bool.true_and]
  rw [show N - F + F = N by omega]
  simp [hp]

end Go.Proofs.Qxb6627957a
