import GoSem.Op.String
namespace Go.Proofs.Qxb6628016a

/-! The plain mathematics of seat b6628016a: flags, counts, the first call that names a validator; no Go program in sight. -/

/-- How many of the first n flags are false. -/
def cf (f : Nat → Bool) : Nat → Nat
  | 0 => 0
  | n + 1 => cf f n + if f n then 0 else 1
theorem cf_le (f : Nat → Bool) (n : Nat) : cf f n ≤ n := by
  induction n with
  | zero => exact Nat.le_refl _
  | succ n ih => simp only [cf]; split <;> omega
theorem cf_true {f : Nat → Bool} {n : Nat} (h : f n = true) : cf f (n + 1) = cf f n := by simp [cf, h]
theorem cf_false {f : Nat → Bool} {n : Nat} (h : f n = false) : cf f (n + 1) = cf f n + 1 := by simp [cf, h]
theorem cf_congr {f g : Nat → Bool} {n : Nat} (h : ∀ i, i < n → f i = g i) : cf f n = cf g n := by
  induction n with
  | zero => rfl
  | succ n ih => simp only [cf]; rw [ih fun i hi => h i (by omega), h n (by omega)]
/-- One flag more. -/
def up (f : Nat → Bool) (v p : Nat) : Bool := if p = v then true else f p
theorem cf_up {f : Nat → Bool} {n v : Nat} (hv : v < n) (h : f v = false) : cf (up f v) n + 1 = cf f n := by
  induction n with
  | zero => omega
  | succ n ih =>
    by_cases e : v = n
    · subst e
      rw [cf_false h, cf_true (f := up f v) (by simp [up])]
      rw [cf_congr (f := up f v) (g := f) fun i hi => by unfold up; rw [if_neg (by omega)]]
    · have := ih (by omega)
      have e2 : up f v n = f n := by unfold up; rw [if_neg (by omega)]
      simp only [cf]
      rw [e2]
      omega

/-- Does p say yes at some k < i? -/
def any0 (p : Nat → Bool) : Nat → Bool
  | 0 => false
  | i + 1 => any0 p i || p i
theorem any0_iff {p : Nat → Bool} {i : Nat} : any0 p i = true ↔ ∃ k, k < i ∧ p k = true := by
  induction i with
  | zero => simp [any0]
  | succ i ih =>
    simp only [any0, Bool.or_eq_true, ih]
    constructor
    · rintro (⟨k, h1, h2⟩ | h)
      · exact ⟨k, by omega, h2⟩
      · exact ⟨i, by omega, h⟩
    · rintro ⟨k, h1, h2⟩
      by_cases e : k = i
      · subst e; exact .inr h2
      · exact .inl ⟨k, by omega, h2⟩
theorem any0_none {p : Nat → Bool} {i : Nat} (h : any0 p i = false) : ∀ k, k < i → p k = false := by
  intro k hk
  cases hp : p k with
  | false => rfl
  | true =>
    have : any0 p i = true := any0_iff.2 ⟨k, hk, hp⟩
    rw [h] at this
    cases this

/-- 1 + the first k < i at which p says yes, or 0. -/
def fst0 (p : Nat → Bool) : Nat → Nat
  | 0 => 0
  | i + 1 => if fst0 p i = 0 then (if p i then i + 1 else 0) else fst0 p i
theorem fst0_le (p : Nat → Bool) (i : Nat) : fst0 p i ≤ i := by
  induction i with
  | zero => exact Nat.le_refl _
  | succ i ih =>
    simp only [fst0]
    split
    · split <;> omega
    · omega
theorem fst0_zero {p : Nat → Bool} {i : Nat} : fst0 p i = 0 ↔ any0 p i = false := by
  induction i with
  | zero => simp [fst0, any0]
  | succ i ih =>
    simp only [fst0, any0, Bool.or_eq_false_iff]
    by_cases h : fst0 p i = 0
    · rw [if_pos h]
      cases hp : p i with
      | false => simp [ih.1 h]
      | true => simp
    · rw [if_neg h]
      constructor
      · intro h2; exact absurd h2 h
      · intro h2; exact absurd (ih.2 h2.1) h
/-- once found, it stays -/
theorem fst0_stays {p : Nat → Bool} {i j : Nat} (h : fst0 p i ≠ 0) (hj : i ≤ j) : fst0 p j = fst0 p i := by
  induction j with
  | zero => have : i = 0 := by omega
            rw [this]
  | succ j ih =>
    by_cases e : i = j + 1
    · rw [e]
    · have := ih (by omega)
      simp only [fst0]
      rw [this, if_neg h]
/-- At a call i that says yes: it is the first one iff none said yes before. -/
theorem fst0_here {p : Nat → Bool} {i m : Nat} (hi : i < m) (hp : p i = true) : (fst0 p m = i + 1) ↔ any0 p i = false := by
  constructor
  · intro h
    cases ha : any0 p i with
    | false => rfl
    | true =>
      have h0 : fst0 p i ≠ 0 := fun e => by rw [fst0_zero.1 e] at ha; cases ha
      have h1 := fst0_stays h0 (show i ≤ m by omega)
      have h2 := fst0_le p i
      omega
  · intro h
    have h0 : fst0 p i = 0 := fst0_zero.2 h
    have h1 : fst0 p (i + 1) = i + 1 := by simp [fst0, h0, hp]
    rw [fst0_stays (i := i + 1) (by omega) (by omega), h1]

theorem fst0_skip {p : Nat → Bool} {i : Nat} (h : p i = false) : fst0 p (i + 1) = fst0 p i := by
  simp only [fst0, h]
  by_cases e : fst0 p i = 0
  · simp [e]
  · simp [e]
theorem fst0_hit {p : Nat → Bool} {i : Nat} (h : p i = true) (e : fst0 p i = 0) : fst0 p (i + 1) = i + 1 := by simp [fst0, h, e]
theorem fst0_kept {p : Nat → Bool} {i : Nat} (e : fst0 p i ≠ 0) : fst0 p (i + 1) = fst0 p i := by simp [fst0, e]

/-- Call k, in the start epoch, names v. -/
def names (start : Int) (ep J : Nat → Int) (v k : Nat) : Bool := (ep k == start) && (J k == (v : Int))
theorem names_no {start : Int} {ep J : Nat → Int} {v k : Nat} (h : ep k ≠ start) : names start ep J v k = false := by simp [names, h]
theorem names_yes {start : Int} {ep J : Nat → Int} {v k j : Nat} (h : ep k = start) (hj : J k = (j : Int)) : names start ep J v k = decide (v = j) := by
  rw [Bool.eq_iff_iff]
  simp [names, h, hj]
  omega

/-- The flags after k calls. -/
def heardAt (bs : Nat → Bool) (start : Int) (ep J : Nat → Int) (k v : Nat) : Bool := bs v || any0 (names start ep J v) k
theorem heardAt_zero (bs : Nat → Bool) (start : Int) (ep J : Nat → Int) (v : Nat) : heardAt bs start ep J 0 v = bs v := by simp [heardAt, any0]
theorem heardAt_no {bs : Nat → Bool} {start : Int} {ep J : Nat → Int} {k v : Nat} (h : names start ep J v k = false) : heardAt bs start ep J (k + 1) v = heardAt bs start ep J k v := by simp [heardAt, any0, h]
theorem heardAt_yes {bs : Nat → Bool} {start : Int} {ep J : Nat → Int} {k v : Nat} (h : names start ep J v k = true) : heardAt bs start ep J (k + 1) v = true := by simp [heardAt, any0, h]

end Go.Proofs.Qxb6628016a
