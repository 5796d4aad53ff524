import Derived.Test.Qxb6628016aHeard
namespace Go.Proofs.Qxb6628016a
open Go.RowKit

/-! One call of Heard, whatever the call: as one plain step. -/

def gotB (start : Int) (hd : Nat → Bool) (e j : Int) : Bool := (e == start) && !hd j.toNat
def stepHd (start : Int) (hd : Nat → Bool) (e j : Int) (v : Nat) : Bool := hd v || ((e == start) && (j == (v : Int)))

theorem stepHd_other {start : Int} {hd : Nat → Bool} {e j : Int} (h : e ≠ start) (v : Nat) : stepHd start hd e j v = hd v := by simp [stepHd, h]
theorem stepHd_again {start : Int} {hd : Nat → Bool} {j : Nat} (h : hd j = true) (v : Nat) : stepHd start hd start (j : Int) v = hd v := by
  unfold stepHd
  by_cases e : v = j
  · subst e; rw [h]; rfl
  · have : ((j : Int) == (v : Int)) = false := by simp; omega
    rw [this]; simp
theorem stepHd_new {start : Int} {hd : Nat → Bool} {j : Nat} (v : Nat) : up hd j v = stepHd start hd start (j : Int) v := by
  unfold up stepHd
  by_cases e : v = j
  · subst e; simp
  · have : ((j : Int) == (v : Int)) = false := by simp; omega
    rw [if_neg e, this]; simp

/-- The count of false flags goes down by one just where the answer is true. -/
theorem cf_step {start : Int} {hd : Nat → Bool} {e j : Int} {n : Nat} (hin : e = start → 0 ≤ j ∧ j < n) : cf (stepHd start hd e j) n + (if gotB start hd e j then 1 else 0) = cf hd n := by
  by_cases he : e = start
  · obtain ⟨h0, h1⟩ := hin he
    obtain ⟨v, rfl⟩ : ∃ v : Nat, j = (v : Int) := ⟨j.toNat, by omega⟩
    subst he
    cases hh : hd v with
    | true =>
      have : gotB e hd e (v : Int) = false := by simp [gotB, hh]
      rw [this, cf_congr fun i _ => stepHd_again hh i]
      rfl
    | false =>
      have : gotB e hd e (v : Int) = true := by simp [gotB, hh]
      rw [this, if_pos rfl, ← cf_up (by omega) hh, cf_congr fun i _ => stepHd_new i]
  · have : gotB start hd e j = false := by simp [gotB, he]
    rw [this, cf_congr fun i _ => stepHd_other he i]
    rfl

theorem heard_any (SB : Nat) (ho : Option Addr) (H n c : Nat) (hn : n ≤ 65536) (start : Int) (hd : Nat → Bool) (e j : Int) (hin : e = start → 0 ≤ j ∧ j < n) (g : Bool) (hg : gotB start hd e j = g) (w : World)
    (h : St w SB ho H n c start hd (cf hd n : Int)) :
    Calls Try.prog 9 #[.pointer (some ⟨SB, 0, none⟩), .int .u64 e, .int .i64 j] w fun r w' => r = .returned (.bool g) ∧ St w' SB ho H n c start (stepHd start hd e j) (cf (stepHd start hd e j) n : Int) ∧ Only2 SB H w w' := by
  subst hg
  have hcs := cf_step (start := start) (hd := hd) (e := e) (j := j) (n := n) hin
  by_cases he : e = start
  · obtain ⟨h0, h1⟩ := hin he
    obtain ⟨v, rfl⟩ : ∃ v : Nat, j = (v : Int) := ⟨j.toNat, by omega⟩
    subst he
    cases hh : hd v with
    | true =>
      have hgb : gotB e hd e (v : Int) = false := by simp [gotB, hh]
      rw [hgb]
      refine (heard_again SB ho H n c e hd _ v w h (by omega) hh).mono ?_
      rintro r w' ⟨rfl, rfl⟩
      refine ⟨rfl, h.congr (fun i _ => (stepHd_again hh i).symm) ?_, Only2.refl _ _ _⟩
      rw [cf_congr fun i _ => stepHd_again hh i]
    | false =>
      have hgb : gotB e hd e (v : Int) = true := by simp [gotB, hh]
      have hcl := cf_le hd n
      rw [hgb, if_pos rfl] at hcs
      rw [hgb]
      refine (heard_new SB ho H n c e hd _ (by omega) v w h (by omega) hh).mono ?_
      rintro r w' ⟨rfl, h2, h3⟩
      exact ⟨rfl, h2.congr (fun i _ => stepHd_new i) (by omega), h3⟩
  · have hgb : gotB start hd e j = false := by simp [gotB, he]
    rw [hgb]
    refine (heard_other SB ho H n c start hd _ e j w h he).mono ?_
    rintro r w' ⟨rfl, rfl⟩
    refine ⟨rfl, h.congr (fun i _ => (stepHd_other he i).symm) ?_, Only2.refl _ _ _⟩
    rw [cf_congr fun i _ => stepHd_other he i]

theorem heardAt_step (bs : Nat → Bool) (start : Int) (ep J : Nat → Int) (k v : Nat) : stepHd start (heardAt bs start ep J k) (ep k) (J k) v = heardAt bs start ep J (k + 1) v := by
  simp only [stepHd, heardAt, any0, names, Bool.or_assoc]

/-- Does p say yes at some i with k ≤ i < m? -/
def anyFrom (p : Nat → Bool) (m k : Nat) : Bool := any0 (fun i => p (k + i)) (m - k)
theorem anyFrom_end (p : Nat → Bool) (m : Nat) : anyFrom p m m = false := by simp [anyFrom, any0]
theorem any0_front (p : Nat → Bool) (n : Nat) : any0 p (n + 1) = (p 0 || any0 (fun i => p (i + 1)) n) := by
  induction n with
  | zero => simp [any0]
  | succ n ih =>
    rw [any0, ih]
    simp only [any0, Bool.or_assoc]
theorem anyFrom_step (p : Nat → Bool) (m k : Nat) (h : k < m) : anyFrom p m k = (p k || anyFrom p m (k + 1)) := by
  unfold anyFrom
  rw [show m - k = (m - (k + 1)) + 1 by omega, any0_front]
  simp only [Nat.add_zero]
  congr 2
  funext i
  rw [show k + (i + 1) = k + 1 + i by omega]
theorem anyFrom_zero (p : Nat → Bool) (m : Nat) : anyFrom p m 0 = any0 p m := by simp [anyFrom]

/-- The flags after the calls m-1, .., k. -/
def heardFrom (bs : Nat → Bool) (start : Int) (ep J : Nat → Int) (m k v : Nat) : Bool := bs v || anyFrom (names start ep J v) m k
theorem heardFrom_end (bs : Nat → Bool) (start : Int) (ep J : Nat → Int) (m v : Nat) : heardFrom bs start ep J m m v = bs v := by simp [heardFrom, anyFrom_end]
theorem heardFrom_zero (bs : Nat → Bool) (start : Int) (ep J : Nat → Int) (m v : Nat) : heardFrom bs start ep J m 0 v = heardAt bs start ep J m v := by simp [heardFrom, heardAt, anyFrom_zero]
theorem heardFrom_step (bs : Nat → Bool) (start : Int) (ep J : Nat → Int) (m k v : Nat) (h : k < m) : stepHd start (heardFrom bs start ep J m (k + 1)) (ep k) (J k) v = heardFrom bs start ep J m k v := by
  simp only [stepHd, heardFrom]
  rw [anyFrom_step _ m k h]
  generalize anyFrom (names start ep J v) m (k + 1) = y
  unfold names
  generalize (ep k == start && J k == (v : Int)) = x
  cases bs v <;> cases x <;> cases y <;> rfl

/-- A State elsewhere is as it was. -/
theorem St.only {w w' : World} {SB : Nat} {ho : Option Addr} {H n c a b : Nat} {start : Int} {hd : Nat → Bool} {u : Int} (h : St w SB ho H n c start hd u) (k : Only2 a b w w') (h1 : SB ≠ a) (h2 : SB ≠ b) (h3 : n ≠ 0 → H ≠ a ∧ H ≠ b) : St w' SB ho H n c start hd u := by
  have hb : w'.heap[SB]? = w.heap[SB]? := k.block SB (World.block_lt_of_cell? w _ h.c8) h1 h2
  exact ⟨(World.cell?_of_block (w := w) hb).trans h.c8, (World.cell?_of_block (w := w) hb).trans h.c9, (World.cell?_of_block (w := w) hb).trans h.c10, (World.frozen?_of_block (w := w) hb).trans h.f10,
    h.row.block fun h0 => k.block H (h.row.lt h0) (h3 h0).1 (h3 h0).2, h.ne⟩
theorem St.below {w w' : World} {SB : Nat} {ho : Option Addr} {H n c : Nat} {start : Int} {hd : Nat → Bool} {u : Int} (h : St w SB ho H n c start hd u) (k : Below w.heap.size w w') : St w' SB ho H n c start hd u := by
  have hb : w'.heap[SB]? = w.heap[SB]? := k.block SB (World.block_lt_of_cell? w _ h.c8)
  exact ⟨(World.cell?_of_block (w := w) hb).trans h.c8, (World.cell?_of_block (w := w) hb).trans h.c9, (World.cell?_of_block (w := w) hb).trans h.c10, (World.frozen?_of_block (w := w) hb).trans h.f10,
    h.row.block fun h0 => k.block H (h.row.lt h0), h.ne⟩

end Go.Proofs.Qxb6628016a
