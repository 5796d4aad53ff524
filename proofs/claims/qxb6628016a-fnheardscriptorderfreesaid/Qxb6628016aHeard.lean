import Derived.Test.Qxb6628016aProg
import Derived.Test.Qxb6628016aPlain
import Derived.WalkKit
import Derived.WalkLawsBesides
import Derived.WalkSpells
import Derived.Deep.OwnRows
import Derived.Deep.QuietTactic
import Derived.BigQuiet
import Derived.Deep.RegionHeld3
import Derived.Deep.DrawnRows
namespace Go.Proofs.Qxb6628016a
open Go.RowKit

theorem Try.info4 : (Try.prog.info? 4).map (fun i => (i.zero, i.size, i.bytes)) = some (some (.bool false), 1, 1) := by kernel_rfl
theorem Try.info3 : (Try.prog.info? 3).map (fun i => (i.zero, i.size, i.bytes)) = some (some (.int .i64 0), 1, 8) := by kernel_rfl

/-- It returns a Bool. -/
def RetB (e : Ending) : Prop := ∃ r : Bool, e = .returned (.bool r)
theorem RetB.mk {e : Ending} (r : Bool) (h : e = .returned (.bool r)) : RetB e := ⟨r, h⟩

/-- A slice of bools: element i's cell. -/
def BRow (w : World) (ao : Option Addr) (n : Nat) (bs : Nat → Bool) : Prop :=
  ∀ i, i < n → ∃ b off, ao = some ⟨b, off, none⟩ ∧ b < w.heap.size ∧ w.cell? ⟨b, off + i, none⟩ = some (.bool (bs i))
theorem BRow.below {w w' : World} {ao : Option Addr} {n : Nat} {bs : Nat → Bool} (h : BRow w ao n bs) (hb : Below w.heap.size w w') : BRow w' ao n bs := by
  intro i hi
  obtain ⟨b, off, e, hlt, h0⟩ := h i hi
  exact ⟨b, off, e, Nat.lt_of_lt_of_le hlt hb.size, (hb.cell (by exact hlt)).trans h0⟩
/-- The calls of the script: call i's two cells. -/
def CRow (w : World) (ao : Option Addr) (m : Nat) (ep J : Nat → Int) : Prop :=
  ∀ i, i < m → ∃ b off, ao = some ⟨b, off, none⟩ ∧ b < w.heap.size ∧ w.cell? ⟨b, off + i * 2, none⟩ = some (.int .u64 (ep i)) ∧ w.cell? ⟨b, off + i * 2 + 1, none⟩ = some (.int .i64 (J i))
theorem CRow.below {w w' : World} {ao : Option Addr} {m : Nat} {ep J : Nat → Int} (h : CRow w ao m ep J) (hb : Below w.heap.size w w') : CRow w' ao m ep J := by
  intro i hi
  obtain ⟨b, off, e, hlt, h0, h1⟩ := h i hi
  exact ⟨b, off, e, Nat.lt_of_lt_of_le hlt hb.size, (hb.cell (by exact hlt)).trans h0, (hb.cell (by exact hlt)).trans h1⟩
theorem below_trans {a b c : World} (h : Below a.heap.size a b) (k : Below b.heap.size b c) : Below a.heap.size a c := h.trans (k.mono h.size)

/-- A row of bools of the call's own: block H holds the n flags (or there are none). -/
def BR (w : World) (ho : Option Addr) (H n : Nat) (f : Nat → Bool) : Prop := n = 0 ∨ (ho = some ⟨H, 0, none⟩ ∧ w.rowIs H 4 n (fun p => .bool (f p)))
theorem BR.brow {w : World} {ho : Option Addr} {H n : Nat} {f : Nat → Bool} (h : BR w ho H n f) : BRow w ho n f := by
  intro i hi
  rcases h with h | ⟨e, h⟩
  · omega
  · exact ⟨H, 0, e, h.lt, by rw [Nat.zero_add]; exact h.cell hi⟩
theorem BR.congr {w : World} {ho : Option Addr} {H n : Nat} {f g : Nat → Bool} (h : BR w ho H n f) (e : ∀ i, i < n → f i = g i) : BR w ho H n g := by
  rcases h with h | ⟨e1, h⟩
  · exact .inl h
  · exact .inr ⟨e1, h.congr fun i hi => by rw [e i hi]⟩
theorem BR.block {w w' : World} {ho : Option Addr} {H n : Nat} {f : Nat → Bool} (h : BR w ho H n f) (e : n ≠ 0 → w'.heap[H]? = w.heap[H]?) : BR w' ho H n f := by
  by_cases h0 : n = 0
  · exact .inl h0
  · rcases h with h | ⟨e1, h⟩
    · exact .inl h
    · exact .inr ⟨e1, h.of_block (e h0)⟩
theorem BR.lt {w : World} {ho : Option Addr} {H n : Nat} {f : Nat → Bool} (h : BR w ho H n f) (h0 : n ≠ 0) : H < w.heap.size := by
  rcases h with h | ⟨_, h⟩
  · exact absurd h h0
  · exact h.lt

set_option maxHeartbeats 1000000 in
theorem clone_some (a : Addr) (n c : Nat) (hn : n ≤ 1048576) (bs : Nat → Bool) (w : World) (h : BRow w (some a) n bs) :
    Calls Try.prog 6 #[.slice (some a) n c] w fun e w' => e = .returned (.slice (some ⟨w.heap.size, 0, none⟩) n n) ∧ w'.rowIs w.heap.size 4 n (fun p => .bool (bs p)) ∧ Below w.heap.size w w' := by
  have h0 : ∀ w, (binOp .eql 23 (.slice (some a) n c) (.slice none 0 0)).run Try.prog w = .ok (.bool false) w := fun w => Lib.run_eql_slice_nil (P := Try.prog) w 23 4 (some a) n c 0 0 Try.underlying23
  have hmk := run_make_row' (P := Try.prog) 23 4 (.bool false) 1 Try.underlying23 Try.info4 rfl .i64 .i64 n (by omega) (by omega)
  go_enter Try.func6, Try.ntmps6
  go_wp2
  have hr0 := World.rowIs_made w (.bool false) n 4
  have hb0 : Below w.heap.size w (w.alloc (.cells (madeCells #[.bool false] n) 4)) := (Below.refl _ _).alloc (Nat.le_refl _) _
  generalize w.alloc (.cells (madeCells #[.bool false] n) 4) = W at *
  clear h0 hmk
  generalize hB : w.heap.size = B at *
  have HB : Hid (w.heap.size = B) := hB
  clear hB
  go_loopw [4] (fun i wr => ∃ k : Nat, k ≤ n ∧ i = .int .i64 k ∧ wr.rowIs B 4 n (fun p => .bool (if p < k then bs p else false)) ∧ Below B w wr) (fun i _ => n - (intOf i).toNat)
  case atStart => exact ⟨0, Nat.zero_le _, rfl, hr0.congr fun p _ => by simp, hb0⟩
  case round =>
    clear hr0 hb0
    obtain ⟨k, hk, rfl, hrow, hbel⟩ := hrel
    have HR : Hid (wr.rowIs B 4 n (fun p => .bool (if p < k then bs p else false))) := hrow
    have HBl : Hid (Below B w wr) := hbel
    by_cases hlt : k < n
    · obtain ⟨b, off, e, hb, c0⟩ := h k hlt
      simp only [Option.some.injEq] at e
      subst e
      have hbB : b < B := by rw [← HB.out]; exact hb
      have c1 := (hbel.cell (p := ⟨b, off + k, none⟩) hbB).trans c0
      obtain ⟨v0, d0⟩ : ∃ v, wr.cell? ⟨B, k, none⟩ = some v := ⟨_, hrow.cell hlt⟩
      have d1 := hrow.frozen k
      clear hrow hbel h c0 hb
      go_wp2
      go_roundw
      case rel =>
        refine ⟨k + 1, by omega, by go_num, (HR.out.set k _).congr fun p _ => ?_, HBl.out.setCell (Nat.le_refl _) _⟩
        show (if p = k then Value.bool (bs k) else .bool (if p < k then bs p else false)) = _
        by_cases e : p = k
        · subst e
          rw [if_pos rfl, if_pos (by omega)]
        · rw [if_neg e]
          by_cases e2 : p < k
          · rw [if_pos e2, if_pos (by omega)]
          · rw [if_neg e2, if_neg (by omega)]
      case measure => simp [intOf]; omega
    · have hkn : k = n := by omega
      subst hkn
      clear hrow hbel h
      go_wp2
      go_ret
      exact ⟨by rw [HB.out]; rfl, by rw [HB.out]; exact HR.out.congr fun p hp => by rw [if_pos hp], by rw [HB.out]; exact HBl.out⟩

theorem clone_none (c : Nat) (w : World) : Calls Try.prog 6 #[.slice none 0 c] w fun e w' => e = .returned (.slice none 0 0) ∧ w = w' := by
  have h0 : ∀ w, (binOp .eql 23 (.slice none 0 c) (.slice none 0 0)).run Try.prog w = .ok (.bool true) w := fun w => Lib.run_eql_slice_nil (P := Try.prog) w 23 4 none 0 c 0 0 Try.underlying23
  go_enter Try.func6, Try.ntmps6
  go_wp2
  go_ret
  exact ⟨rfl, rfl⟩

/-- cloneBools, nil or not. -/
theorem clone_any (ao : Option Addr) (n c : Nat) (hn : n ≤ 1048576) (hnil : ao = none → n = 0) (bs : Nat → Bool) (w : World) (h : BRow w ao n bs) :
    Calls Try.prog 6 #[.slice ao n c] w fun e w' => ∃ ho cc, e = .returned (.slice ho n cc) ∧ (ho = none → n = 0) ∧ BR w' ho w.heap.size n bs ∧ Below w.heap.size w w' := by
  cases ao with
  | none =>
    have h0 := hnil rfl
    subst h0
    exact (clone_none c w).mono fun e w' ⟨h1, h2⟩ => ⟨none, 0, h1, fun _ => rfl, .inl rfl, by subst h2; exact Below.refl _ _⟩
  | some a => exact (clone_some a n c hn bs w h).mono fun e w' ⟨h1, h2, h3⟩ => ⟨_, _, h1, (fun e => by cases e), .inr ⟨rfl, h2⟩, h3⟩

set_option maxHeartbeats 1000000 in
theorem countFalse_any (ao : Option Addr) (n c : Nat) (hn : n ≤ 1048576) (bs : Nat → Bool) (w : World) (h : BRow w ao n bs) :
    Calls Try.prog 7 #[.slice ao n c] w fun e w' => e = .returned (.int .i64 (cf bs n)) ∧ w = w' := by
  go_enter Try.func7, Try.ntmps7
  go_wp2
  go_loop [3, 4] (fun t i => ∃ k : Nat, k ≤ n ∧ i = .int .i64 k ∧ t = .int .i64 (cf bs k)) (fun _ i => n - (intOf i).toNat)
  case atStart => exact ⟨0, Nat.zero_le _, rfl, rfl⟩
  case round =>
    obtain ⟨k, hk, rfl, rfl⟩ := hrel
    have hc := cf_le bs k
    by_cases hlt : k < n
    · obtain ⟨b, off, rfl, _, c0⟩ := h k hlt
      clear h
      cases hb : bs k with
      | true =>
        rw [hb] at c0
        have HB : Hid (bs k = true) := hb
        clear hb
        go_wp2
        go_round
        case rel => exact ⟨k + 1, by omega, by go_num, by rw [cf_true HB.out]⟩
        case measure => simp [intOf]; omega
      | false =>
        rw [hb] at c0
        have HB : Hid (bs k = false) := hb
        clear hb
        go_wp2
        go_round
        case rel => exact ⟨k + 1, by omega, by go_num, by rw [cf_false HB.out]; go_num⟩
        case measure => simp [intOf]; omega
    · have e : k = n := by omega
      subst e
      clear h
      go_wp2
      go_ret
      exact ⟨rfl, rfl⟩

theorem zz5_any (s : Int) (ao bo : Option Addr) (n c m d : Nat) (w : World) : Calls Try.prog 5 #[.int .u64 s, .slice ao n c, .slice bo m d] w fun e w' => RetB e ∧ w = w' := by
  by_cases h : 1048576 < n
  · go_enter Try.func5, Try.ntmps5
    go_wp2
    go_ret
    exact ⟨.mk false rfl, rfl⟩
  by_cases h2 : 1048576 < m
  · go_enter Try.func5, Try.ntmps5
    go_wp2
    go_ret
    exact ⟨.mk false rfl, rfl⟩
  by_cases h3 : 1048576 < n + m
  · go_enter Try.func5, Try.ntmps5
    go_wp2
    go_ret
    exact ⟨.mk false rfl, rfl⟩
  · go_enter Try.func5, Try.ntmps5
    go_wp2
    go_ret
    exact ⟨.mk true rfl, rfl⟩

theorem zz12_any (s : Int) (ao bo : Option Addr) (n c m d : Nat) (w : World) : Calls Try.prog 12 #[.int .u64 s, .slice ao n c, .slice bo m d] w fun e w' => RetB e ∧ w = w' := by
  by_cases h : 1048576 < n
  · go_enter Try.func12, Try.ntmps12
    go_wp2
    go_ret
    exact ⟨.mk false rfl, rfl⟩
  by_cases h2 : 1048576 < m
  · go_enter Try.func12, Try.ntmps12
    go_wp2
    go_ret
    exact ⟨.mk false rfl, rfl⟩
  by_cases h3 : 1048576 < n + m
  · go_enter Try.func12, Try.ntmps12
    go_wp2
    go_ret
    exact ⟨.mk false rfl, rfl⟩
  · go_enter Try.func12, Try.ntmps12
    go_wp2
    go_ret
    exact ⟨.mk true rfl, rfl⟩

/-- Nothing has turned but blocks a and b. -/
structure Only2 (a b : Nat) (w w' : World) : Prop where
  os : w'.os = w.os
  tape : w'.tape = w.tape
  output : w'.output = w.output
  size : w.heap.size ≤ w'.heap.size
  block : ∀ k, k < w.heap.size → k ≠ a → k ≠ b → w'.heap[k]? = w.heap[k]?
theorem Only2.refl (a b : Nat) (w : World) : Only2 a b w w := ⟨rfl, rfl, rfl, Nat.le_refl _, fun _ _ _ _ => rfl⟩
theorem Only2.trans {a b : Nat} {w w' w'' : World} (h : Only2 a b w w') (k : Only2 a b w' w'') : Only2 a b w w'' :=
  ⟨k.os.trans h.os, k.tape.trans h.tape, k.output.trans h.output, Nat.le_trans h.size k.size, fun i hi h1 h2 => (k.block i (Nat.lt_of_lt_of_le hi h.size) h1 h2).trans (h.block i hi h1 h2)⟩
theorem Only2.drewN {a b : Nat} {w w' : World} (h : Only2 a b w w') (n : Nat) : Only2 a b w (w'.drewN n) := ⟨h.os, h.tape, h.output, h.size, h.block⟩
theorem Only2.drew {a b : Nat} {w w' : World} (h : Only2 a b w w') : Only2 a b w w'.drew := ⟨h.os, h.tape, h.output, h.size, h.block⟩
theorem Only2.undrew {a b : Nat} {w w' : World} (h : Only2 a b w.drew w') : Only2 a b w w' := ⟨h.os, h.tape, h.output, h.size, h.block⟩
theorem Only2.below {a b B : Nat} {w0 w w' : World} (hb : Below B w0 w) (h : Only2 a b w w') (hB : B ≤ w.heap.size) (ha : B ≤ a) (hbb : B ≤ b) : Below B w0 w' :=
  hb.trans ⟨h.os, h.tape, h.output, h.size, fun k hk => h.block k (by omega) (by omega) (by omega)⟩
theorem Only2.set {a b : Nat} (w : World) (i : Nat) (v : Value) : Only2 a b w (w.setCell ⟨a, i, none⟩ v) :=
  ⟨rfl, rfl, rfl, by simp [World.setCell], fun k _ h1 _ => Below.heap_setCell _ _ _ _ h1⟩
theorem Only2.set' {a b : Nat} (w : World) (i : Nat) (v : Value) : Only2 a b w (w.setCell ⟨b, i, none⟩ v) :=
  ⟨rfl, rfl, rfl, by simp [World.setCell], fun k _ _ h2 => Below.heap_setCell _ _ _ _ h2⟩
theorem CRow.only {a b : Nat} {w w' : World} {ao : Option Addr} {m : Nat} {ep J : Nat → Int} (h : CRow w ao m ep J) (k : Only2 a b w w') (hb : ∀ x, ao = some x → x.block ≠ a ∧ x.block ≠ b) : CRow w' ao m ep J := by
  intro i hi
  obtain ⟨bb, off, e, hlt, h0, h1⟩ := h i hi
  obtain ⟨n1, n2⟩ := hb _ e
  have hk : w'.heap[bb]? = w.heap[bb]? := k.block bb hlt n1 n2
  exact ⟨bb, off, e, Nat.lt_of_lt_of_le hlt k.size, (World.cell?_of_block (w := w) hk).trans h0, (World.cell?_of_block (w := w) hk).trans h1⟩

/-- A State at block SB whose flags lie in block H. -/
structure St (w : World) (SB : Nat) (ho : Option Addr) (H n c : Nat) (start : Int) (hd : Nat → Bool) (u : Int) : Prop where
  c8 : w.cell? ⟨SB, 8, none⟩ = some (.int .u64 start)
  c9 : w.cell? ⟨SB, 9, none⟩ = some (.slice ho n c)
  c10 : w.cell? ⟨SB, 10, none⟩ = some (.int .i64 u)
  f10 : w.frozen? ⟨SB, 10, none⟩ = false
  row : BR w ho H n hd
  ne : n ≠ 0 → SB ≠ H

theorem St.drew {w : World} {SB : Nat} {ho : Option Addr} {H n c : Nat} {start : Int} {hd : Nat → Bool} {u : Int} (h : St w SB ho H n c start hd u) : St w.drew SB ho H n c start hd u := ⟨h.c8, h.c9, h.c10, h.f10, h.row, h.ne⟩
theorem St.drewN {w : World} {SB : Nat} {ho : Option Addr} {H n c : Nat} {start : Int} {hd : Nat → Bool} {u : Int} (h : St w SB ho H n c start hd u) (k : Nat) : St (w.drewN k) SB ho H n c start hd u := ⟨h.c8, h.c9, h.c10, h.f10, h.row, h.ne⟩
theorem St.congr {w : World} {SB : Nat} {ho : Option Addr} {H n c : Nat} {start : Int} {hd hd' : Nat → Bool} {u u' : Int} (h : St w SB ho H n c start hd u) (e : ∀ i, i < n → hd i = hd' i) (eu : u = u') : St w SB ho H n c start hd' u' :=
  ⟨h.c8, h.c9, by rw [← eu]; exact h.c10, h.f10, h.row.congr e, h.ne⟩

theorem newState_any (s : Int) (ho : Option Addr) (n c : Nat) (u : Int) (w : World) :
    Calls Try.prog 8 #[.int .u64 s, .slice ho n c, .int .i64 u] w fun e w' => e = .returned (.pointer (some ⟨w.heap.size, 0, none⟩)) ∧ w'.cell? ⟨w.heap.size, 8, none⟩ = some (.int .u64 s) ∧ w'.cell? ⟨w.heap.size, 9, none⟩ = some (.slice ho n c) ∧
      w'.cell? ⟨w.heap.size, 10, none⟩ = some (.int .i64 u) ∧ w'.frozen? ⟨w.heap.size, 10, none⟩ = false ∧ Below w.heap.size w w' ∧ w.heap.size < w'.heap.size := by
  go_enter Try.func8, Try.ntmps8
  go_wp2
  go_ret
  refine ⟨rfl, ?_, ?_, ?_, ?_, (Below.refl _ _).alloc (Nat.le_refl _) _, by simp⟩
  · go_simp
  · go_simp
  · go_simp
  · go_simp

/-- Heard outside the start epoch: nothing. -/
theorem heard_other (SB : Nat) (ho : Option Addr) (H n c : Nat) (start : Int) (hd : Nat → Bool) (u e j : Int) (w : World) (h : St w SB ho H n c start hd u) (he : e ≠ start) :
    Calls Try.prog 9 #[.pointer (some ⟨SB, 0, none⟩), .int .u64 e, .int .i64 j] w fun r w' => r = .returned (.bool false) ∧ w = w' := by
  have c8 := h.c8
  have hb : (e != start) = true := by rw [bne_iff_ne]; exact he
  clear h he
  go_enter Try.func9, Try.ntmps9
  go_wp2
  go_ret
  exact ⟨rfl, rfl⟩

/-- Heard of one that was heard: nothing. -/
theorem heard_again (SB : Nat) (ho : Option Addr) (H n c : Nat) (start : Int) (hd : Nat → Bool) (u : Int) (v : Nat) (w : World) (h : St w SB ho H n c start hd u) (hv : v < n) (hh : hd v = true) :
    Calls Try.prog 9 #[.pointer (some ⟨SB, 0, none⟩), .int .u64 start, .int .i64 v] w fun r w' => r = .returned (.bool false) ∧ w = w' := by
  have c8 := h.c8
  have c9 := h.c9
  obtain ⟨b, off, rfl, _, c0⟩ := h.row.brow v hv
  rw [hh] at c0
  have hb : (start != start) = false := by simp
  clear h
  go_enter Try.func9, Try.ntmps9
  go_wp2
  go_ret
  exact ⟨rfl, rfl⟩

theorem st_step {w : World} {SB H n c : Nat} {start u : Int} {hd : Nat → Bool} {v : Nat} (h : St w SB (some ⟨H, 0, none⟩) H n c start hd u) (hrow : w.rowIs H 4 n (fun p => .bool (hd p))) (hne : ¬ H = SB) :
    St ((w.setCell ⟨H, v, none⟩ (.bool true)).setCell ⟨SB, 10, none⟩ (.int .i64 (u - 1))) SB (some ⟨H, 0, none⟩) H n c start (up hd v) (u - 1) := by
  have c8 := h.c8
  have c9 := h.c9
  have c10 := h.c10
  have f10 := h.f10
  have hne' : ¬ SB = H := fun e => hne e.symm
  refine ⟨?_, ?_, ?_, ?_, .inr ⟨rfl, ((hrow.set v (.bool true)).setOther (by exact hne) _).congr fun p _ => ?_⟩, h.ne⟩
  · go_simp
  · go_simp
  · go_simp
  · go_simp
  · show (if p = v then Value.bool true else .bool (hd p)) = .bool (up hd v p)
    unfold up
    by_cases e : p = v
    · rw [if_pos e, if_pos e]
    · rw [if_neg e, if_neg e]

/-- Heard of a new one: its flag is set, the count goes down. -/
theorem heard_new (SB : Nat) (ho : Option Addr) (H n c : Nat) (start : Int) (hd : Nat → Bool) (u : Int) (hu : 1 ≤ u ∧ u ≤ 1048576) (v : Nat) (w : World) (h : St w SB ho H n c start hd u) (hv : v < n) (hh : hd v = false) :
    Calls Try.prog 9 #[.pointer (some ⟨SB, 0, none⟩), .int .u64 start, .int .i64 v] w fun r w' => r = .returned (.bool true) ∧ St w' SB ho H n c start (up hd v) (u - 1) ∧ Only2 SB H w w' := by
  have hne := h.ne (by omega)
  rcases h.row with h0 | ⟨rfl, hrow⟩
  · omega
  have HS : Hid (St w SB (some ⟨H, 0, none⟩) H n c start hd u) := h
  have c8 := h.c8
  have c9 := h.c9
  have c10 := h.c10
  have f10 := h.f10
  have c0 := hrow.cell hv
  have f0 := hrow.frozen v
  rw [hh] at c0
  have HR : Hid (w.rowIs H 4 n (fun p => .bool (hd p))) := hrow
  have hb : (start != start) = false := by simp
  have hne2 : ¬ H = SB := fun e => hne e.symm
  obtain ⟨hu1, hu2⟩ := hu
  clear h hrow
  go_enter Try.func9, Try.ntmps9
  go_wp2
  go_ret
  exact ⟨rfl, st_step HS.out HR.out hne2, (Only2.set' _ _ _).trans (Only2.set _ _ _)⟩

theorem ZZheard_any (SB : Nat) (v : Value) (w : World) (h : w.cell? ⟨SB, 9, none⟩ = some v) : Calls Try.prog 10 #[.pointer (some ⟨SB, 0, none⟩)] w fun r w' => r = .returned v ∧ w = w' := by
  go_enter Try.func10, Try.ntmps10
  go_wp2
  go_ret
  exact ⟨rfl, rfl⟩
theorem ZZunheard_any (SB : Nat) (v : Value) (w : World) (h : w.cell? ⟨SB, 10, none⟩ = some v) : Calls Try.prog 11 #[.pointer (some ⟨SB, 0, none⟩)] w fun r w' => r = .returned v ∧ w = w' := by
  go_enter Try.func11, Try.ntmps11
  go_wp2
  go_ret
  exact ⟨rfl, rfl⟩

end Go.Proofs.Qxb6628016a
