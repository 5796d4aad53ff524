import Derived.Test.Qxb6627919aSearch
namespace Go.Proofs.Qxb6627919a
open Go.RowKit
attribute [local go_sem ↓] Go.wp_at_zero Go.wp_at_succ

theorem newOkey_any (n : Int) (s : ByteArray) (w : World) :
    Calls Try.prog 9 #[.int .i64 n, .string s] w fun e w' => e = .returned (.agg #[.int .i64 n, .string s]) ∧ Below w.heap.size w w' := by
  go_enter Try.func9, Try.ntmps9
  go_wp2
  exact bodyPost_ret (v := .agg #[.int .i64 n, .string s]) (by simp [results, Try.results9, go_sem]) rfl ⟨rfl, (Below.refl _ _).alloc (Nat.le_refl _) _⟩

theorem ZZsearch_any (ks : List (Int × ByteArray)) (ao : Option Addr) (cap : Nat) (x : Int × ByteArray) (w : World) (h : Row w ao ks) (hn : ks.length ≤ 1048576) (hs : sortedB ks = true) :
    Calls Try.prog 10 #[.slice ao ks.length cap, .agg #[.int .i64 x.1, .string x.2]] w fun e w' => e = .returned (.tuple #[.int .i64 (cnt ks x ks.length), .bool (anyB ks x ks.length)]) ∧ Below w.heap.size w w' := by
  have HS : Hid (sortedB ks = true) := hs
  clear hs
  go_enter Try.func10, Try.ntmps10
  go_wp2_with fail
  refine (search_any ks ao cap x _ (h.below ((Below.refl _ _).alloc (Nat.le_refl _) _)) hn HS.out).mono ?_
  rintro e w' ⟨rfl, hb⟩
  go_wp2
  go_ret2
  exact ⟨rfl, below_trans ((Below.refl _ _).alloc (Nat.le_refl _) _) hb⟩

theorem Try.info30 : (Try.prog.info? 30).map (fun i => (i.zero, i.size, i.bytes)) = some (some (.agg #[.int .i64 0, .string ByteArray.empty]), 2, 24) := by kernel_rfl

/-- Block B is a row of n pairs of cells, none frozen; the first k pairs hold the first k keys. -/
def Filled (w : World) (B T n : Nat) (ks : List (Int × ByteArray)) (k : Nat) : Prop :=
  ∃ cur : Array Value, w.heap[B]? = some (.cells cur T (0, 0)) ∧ cur.size = n * 2 ∧ ∀ j, j < k → cur[j * 2]? = some (.int .i64 (key ks j).1) ∧ cur[j * 2 + 1]? = some (.string (key ks j).2)

theorem Filled.below {w w' : World} {B T n : Nat} {ks : List (Int × ByteArray)} {k : Nat} (h : Filled w B T n ks k) (hb : Below w.heap.size w w') : Filled w' B T n ks k := by
  obtain ⟨cur, h1, h2, h3⟩ := h
  exact ⟨cur, by rw [hb.block B (Array.getElem?_eq_some_iff.1 h1).1]; exact h1, h2, h3⟩

theorem filled_start {w : World} {B T n base : Nat} {xs : List Value} (ks : List (Int × ByteArray)) (h : w.ownsRow base T 2 (.slice (some ⟨B, 0, none⟩) n n) n xs) : Filled w B T n ks 0 := by
  rcases h.2 with ⟨h1, _⟩ | ⟨g, cap, cur, h1, _, h2, _, _, h3, _⟩
  · cases h1
  · injection h1 with e1 e2 e3
    simp only [Option.some.injEq, Addr.mk.injEq, and_true] at e1
    subst e1 e3
    exact ⟨cur, h2, h3, fun j hj => by omega⟩

/-- what the store wants -/
theorem Filled.cell {w : World} {B T n : Nat} {ks : List (Int × ByteArray)} {k : Nat} (h : Filled w B T n ks k) (i : Nat) (hi : i < n * 2) : (∃ v, w.cell? ⟨B, i, none⟩ = some v) ∧ w.frozen? ⟨B, i, none⟩ = false := by
  obtain ⟨cur, h1, h2, h3⟩ := h
  refine ⟨⟨cur[i]'(by omega), ?_⟩, ?_⟩
  · rw [cell_of_row w B i cur T (0, 0) h1]
    simp [h2, hi]
  · simp [World.frozen?, h1]

theorem Filled.row {w : World} {B T n : Nat} {ks : List (Int × ByteArray)} (h : Filled w B T n ks n) (hn : ks.length = n) : Row w (some ⟨B, 0, none⟩) ks := by
  intro i hi
  obtain ⟨cur, h1, h2, h3⟩ := h
  refine ⟨B, 0, rfl, (Array.getElem?_eq_some_iff.1 h1).1, ?_, ?_⟩
  · rw [cell_of_row w B _ cur T (0, 0) h1, Nat.zero_add]
    exact (h3 i (by omega)).1
  · rw [cell_of_row w B _ cur T (0, 0) h1, Nat.zero_add]
    exact (h3 i (by omega)).2

theorem cell_set2 {w : World} {b o B i j : Nat} {u v x : Value} (hne : ¬ b = B) (h : w.cell? ⟨b, o, none⟩ = some x) : ((w.setCell ⟨B, i, none⟩ u).setCell ⟨B, j, none⟩ v).cell? ⟨b, o, none⟩ = some x := by
  rw [World.cell?_of_block (w := w) (by rw [Below.heap_setCell _ _ _ _ hne, Below.heap_setCell _ _ _ _ hne])]
  exact h

/-- One pair more. -/
theorem Filled.store {w : World} {B T n : Nat} {ks : List (Int × ByteArray)} {k : Nat} (h : Filled w B T n ks k) (hk : k < n) :
    Filled ((w.setCell ⟨B, k * 2, none⟩ (.int .i64 (key ks k).1)).setCell ⟨B, k * 2 + 1, none⟩ (.string (key ks k).2)) B T n ks (k + 1) := by
  obtain ⟨cur, h1, h2, h3⟩ := h
  refine ⟨(cur.setIfInBounds (k * 2) (.int .i64 (key ks k).1)).setIfInBounds (k * 2 + 1) (.string (key ks k).2), ?_, by simp [h2], fun j hj => ?_⟩
  · simp [World.setCell, Array.getElem?_modify, h1]
  · by_cases e : j = k
    · subst e
      constructor
      · rw [Array.getElem?_setIfInBounds, if_neg (by omega), Array.getElem?_setIfInBounds, if_pos rfl, if_pos (by omega)]
      · rw [Array.getElem?_setIfInBounds, if_pos rfl, if_pos (by simp; omega)]
    · have h4 := h3 j (by omega)
      constructor
      · rw [Array.getElem?_setIfInBounds, if_neg (by omega), Array.getElem?_setIfInBounds, if_neg (by omega)]
        exact h4.1
      · rw [Array.getElem?_setIfInBounds, if_neg (by omega), Array.getElem?_setIfInBounds, if_neg (by omega)]
        exact h4.2

set_option maxHeartbeats 1000000 in
theorem toEngine_any (ks : List (Int × ByteArray)) (ao : Option Addr) (cap : Nat) (w : World) (h : Row w ao ks) (hn : ks.length ≤ 1048576) :
    Calls Try.prog 8 #[.slice ao ks.length cap] w fun e w' => ∃ g, e = .returned (.slice (some ⟨g, 0, none⟩) ks.length ks.length) ∧ Row w' (some ⟨g, 0, none⟩) ks ∧ Below w.heap.size w w' := by
  obtain ⟨i0, hi, hz0, hz1, hz2⟩ := info_parts Try.info30
  generalize hL : ks.length = len
  rw [hL] at hn
  have HL : Hid (ks.length = len) := hL
  clear hL
  go_enter Try.func8, Try.ntmps8
  go_wp2_with (first | (at_make; refine wpList_make_full _ rfl _ _ 27 rfl w.heap.size 30 i0 (.agg #[.int .i64 0, .string ByteArray.empty]) 2 Try.underlying27 hi hz0 hz1 _ _ _ _ len rfl rfl rfl rfl (by rw [hz2]; omega) (by unfold maxLen; omega) (Nat.le_refl _) ?_))
  intro w1 hown hgrow
  have hF := filled_start ks hown
  have hbel1 : Below w.heap.size w w1 := (Below.refl _ _).grown hgrow (Nat.le_refl _) (fun k hk => by cases hk)
  clear hown hgrow hz0 hz1 hz2 hi i0
  generalize hB0 : w.heap.size = B at *
  have HB0 : Hid (w.heap.size = B) := hB0
  clear hB0
  go_wp2
  go_loopw [4] (fun i wr => ∃ k : Nat, k ≤ len ∧ i = .int .i64 k ∧ Filled wr B 30 len ks k ∧ Below B w wr) (fun i _ => len - (intOf i).toNat)
  case atStart => exact ⟨0, Nat.zero_le _, rfl, hF, hbel1⟩
  case round =>
    obtain ⟨k, hk, rfl, hfil, hbel⟩ := hrel
    have HB : Hid (Below B w wr) := hbel
    by_cases hlt : k < len
    · have hr : Row wr ao ks := h.below (by rw [HB0.out]; exact hbel)
      obtain ⟨b, off, rfl, hb, c0, c1⟩ := key_cell hr (show k < ks.length by rw [HL.out]; exact hlt)
      obtain ⟨b', off', e, hbb, _⟩ := key_cell h (show k < ks.length by rw [HL.out]; exact hlt)
      simp only [Option.some.injEq, Addr.mk.injEq, and_true] at e
      obtain ⟨rfl, rfl⟩ := e
      rw [HB0.out] at hbb
      have hne : ¬ b = B := by omega
      have HF : Hid (Filled wr B 30 len ks k) := hfil
      clear hr hbel h hfil hF hbel1
      have j1 : (0 : Int) ≤ (k : Int) := by omega
      have j2 : (k : Int) < (len : Int) := by omega
      go_wp2
      go_region_held3 (fun w' => w'.cell? ⟨b, off + k * 2, none⟩ = some (.int .i64 (key ks k).1) ∧ w'.cell? ⟨b, off + k * 2 + 1, none⟩ = some (.string (key ks k).2)) (first | exact ⟨c0, c1⟩ | exact ⟨(hbl.cell (by exact hb)).trans c0, (hbl.cell (by exact hb)).trans c1⟩ | exact ⟨cell_set2 hne ((hbl.cell (by exact hb)).trans c0), cell_set2 hne ((hbl.cell (by exact hb)).trans c1)⟩) (first | (go_at_call 9; refine (newOkey_any _ _ _).mono ?_; rintro e w' ⟨rfl, hbl⟩; have hF2 : Filled w' B 30 len ks k := (show Filled wr.drew B 30 len ks k from HF.out).below hbl; obtain ⟨⟨v0, t0⟩, t1⟩ := hF2.cell (k * 2) (by omega); obtain ⟨⟨v2, t2⟩, t3⟩ := hF2.cell (k * 2 + 1) (by omega)))
      go_wp2
      go_roundw
      case rel =>
        refine ⟨k + 1, by omega, by go_num, hF2.store hlt, ?_⟩
        have hB : B ≤ wr.heap.size := by have := HB.out.size; rw [HB0.out] at this; exact this
        exact ((HB.out.drew.trans (hbl.mono hB)).setCell (Nat.le_refl _) _).setCell (Nat.le_refl _) _
      case measure => simp [intOf]; omega
    · have e : k = len := by omega
      subst e
      have HF : Hid (Filled wr B 30 k ks k) := hfil
      clear hfil hF hbel hbel1 h
      go_wp2
      go_ret
      exact ⟨B, rfl, HF.out.row HL.out, by rw [HB0.out]; exact HB.out⟩

/-- It returns a Bool of which Q holds. -/
def RetB (e : Ending) (Q : Bool → Prop) : Prop := ∃ r : Bool, e = .returned (.bool r) ∧ Q r
theorem RetB.mk {e : Ending} {Q : Bool → Prop} (r : Bool) (h : e = .returned (.bool r)) (q : Q r) : RetB e Q := ⟨r, h, q⟩

set_option maxHeartbeats 1000000 in
theorem tooBig_any (ks : List (Int × ByteArray)) (ao : Option Addr) (cap : Nat) (x : Int × ByteArray) (w : World) (h : Row w ao ks) :
    Calls Try.prog 6 #[.slice ao ks.length cap, .agg #[.int .i64 x.1, .string x.2]] w fun e w' => RetB e (fun r => r = false → ks.length ≤ 65536) ∧ Below w.heap.size w w' := by
  generalize hL : ks.length = len
  have HL : Hid (ks.length = len) := hL
  clear hL
  by_cases hbig : 65536 < len
  · go_enter Try.func6, Try.ntmps6
    go_wp2
    go_ret
    exact ⟨.mk true rfl (fun e => by cases e), (Below.refl _ _).alloc (Nat.le_refl _) _⟩
  by_cases hbs : 1048576 < x.2.size
  · go_enter Try.func6, Try.ntmps6
    go_wp2
    go_ret
    exact ⟨.mk true rfl (fun e => by cases e), (Below.refl _ _).alloc (Nat.le_refl _) _⟩
  go_enter Try.func6, Try.ntmps6
  go_wp2
  generalize hW : w.alloc (.cells #[.int .i64 x.1, .string x.2] 24) = W
  obtain ⟨hsz, b0, b1, hwW⟩ := box_facts hW
  have hR := h.below hwW
  have HwW : Hid (Below w.heap.size w W) := hwW
  clear hW h hwW
  generalize hB0 : w.heap.size = B at *
  have HB0 : Hid (w.heap.size = B) := hB0
  clear hB0
  go_loop [5, 6] (fun t i => ∃ (k : Nat) (n : Int), k ≤ len ∧ i = .int .i64 k ∧ t = .int .i64 n) (fun _ i => len - (intOf i).toNat)
  case atStart => exact ⟨0, _, Nat.zero_le _, rfl, rfl⟩
  case round =>
    obtain ⟨k, n, hk, rfl, rfl⟩ := hrel
    by_cases hlt : k < len
    · obtain ⟨b, off, rfl, hb, c0, c1⟩ := key_cell hR (show k < ks.length by rw [HL.out]; exact hlt)
      clear hR
      go_wp2
      · go_ret
        exact ⟨.mk true rfl (fun e => by cases e), by rw [HB0.out]; exact HwW.out⟩
      · go_round
        case rel => exact ⟨k + 1, _, by omega, by go_num, rfl⟩
        case measure => simp [intOf]; omega
    · clear hR
      go_wp2
      go_ret
      exact ⟨.mk false rfl (fun _ => by omega), by rw [HB0.out]; exact HwW.out⟩

set_option maxHeartbeats 1000000 in
theorem zz5_any (ks : List (Int × ByteArray)) (ao : Option Addr) (cap : Nat) (x : Int × ByteArray) (w : World) (h : Row w ao ks) :
    Calls Try.prog 5 #[.slice ao ks.length cap, .agg #[.int .i64 x.1, .string x.2]] w fun e w' => RetB e (fun _ => True) ∧ Below w.heap.size w w' := by
  generalize hL : ks.length = len
  have HL : Hid (ks.length = len) := hL
  clear hL
  by_cases hbig : 1048576 < len
  · go_enter Try.func5, Try.ntmps5
    go_wp2
    go_ret
    exact ⟨.mk false rfl trivial, (Below.refl _ _).alloc (Nat.le_refl _) _⟩
  go_enter Try.func5, Try.ntmps5
  go_wp2
  generalize hW : w.alloc (.cells #[.int .i64 x.1, .string x.2] 24) = W
  obtain ⟨hsz, b0, b1, hwW⟩ := box_facts hW
  have hR := h.below hwW
  have HwW : Hid (Below w.heap.size w W) := hwW
  clear hW h hwW
  generalize hB0 : w.heap.size = B at *
  have HB0 : Hid (w.heap.size = B) := hB0
  clear hB0
  go_loop [5, 6] (fun t i => ∃ (k : Nat) (n : Int), k ≤ len ∧ i = .int .i64 k ∧ t = .int .i64 n) (fun _ i => len - (intOf i).toNat)
  case atStart => exact ⟨0, _, Nat.zero_le _, rfl, rfl⟩
  case round =>
    obtain ⟨k, n, hk, rfl, rfl⟩ := hrel
    by_cases hlt : k < len
    · obtain ⟨b, off, rfl, hb, c0, c1⟩ := key_cell hR (show k < ks.length by rw [HL.out]; exact hlt)
      clear hR
      go_wp2
      · go_ret
        exact ⟨.mk false rfl trivial, by rw [HB0.out]; exact HwW.out⟩
      · go_ret
        exact ⟨.mk false rfl trivial, by rw [HB0.out]; exact HwW.out⟩
      · go_round
        case rel => exact ⟨k + 1, _, by omega, by go_num, rfl⟩
        case measure => simp [intOf]; omega
    · clear hR
      go_wp2
      · go_ret
        exact ⟨.mk false rfl trivial, by rw [HB0.out]; exact HwW.out⟩
      · go_ret
        exact ⟨.mk false rfl trivial, by rw [HB0.out]; exact HwW.out⟩
      · go_ret
        exact ⟨.mk true rfl trivial, by rw [HB0.out]; exact HwW.out⟩

set_option maxHeartbeats 1000000 in
theorem zz13_any (ks : List (Int × ByteArray)) (ao : Option Addr) (cap : Nat) (x : Int × ByteArray) (c : Int) (w : World) (h : Row w ao ks) :
    Calls Try.prog 13 #[.slice ao ks.length cap, .agg #[.int .i64 x.1, .string x.2], .int .i64 c] w fun e w' => RetB e (fun _ => True) ∧ Below w.heap.size w w' := by
  generalize hL : ks.length = len
  have HL : Hid (ks.length = len) := hL
  clear hL
  by_cases hbig : 1048576 < len
  · go_enter Try.func13, Try.ntmps13
    go_wp2
    go_ret
    exact ⟨.mk false rfl trivial, (Below.refl _ _).alloc (Nat.le_refl _) _⟩
  go_enter Try.func13, Try.ntmps13
  go_wp2
  generalize hW : w.alloc (.cells #[.int .i64 x.1, .string x.2] 24) = W
  obtain ⟨hsz, b0, b1, hwW⟩ := box_facts hW
  have hR := h.below hwW
  have HwW : Hid (Below w.heap.size w W) := hwW
  clear hW h hwW
  generalize hB0 : w.heap.size = B at *
  have HB0 : Hid (w.heap.size = B) := hB0
  clear hB0
  go_loop [7, 8] (fun t i => ∃ (k : Nat) (n : Int), k ≤ len ∧ i = .int .i64 k ∧ t = .int .i64 n) (fun _ i => len - (intOf i).toNat)
  case atStart => exact ⟨0, _, Nat.zero_le _, rfl, rfl⟩
  case round =>
    obtain ⟨k, n, hk, rfl, rfl⟩ := hrel
    by_cases hlt : k < len
    · obtain ⟨b, off, rfl, hb, c0, c1⟩ := key_cell hR (show k < ks.length by rw [HL.out]; exact hlt)
      clear hR
      go_wp2
      · go_ret
        exact ⟨.mk false rfl trivial, by rw [HB0.out]; exact HwW.out⟩
      · go_ret
        exact ⟨.mk false rfl trivial, by rw [HB0.out]; exact HwW.out⟩
      · go_round
        case rel => exact ⟨k + 1, _, by omega, by go_num, rfl⟩
        case measure => simp [intOf]; omega
    · clear hR
      go_wp2
      · go_ret
        exact ⟨.mk false rfl trivial, by rw [HB0.out]; exact HwW.out⟩
      · go_ret
        exact ⟨.mk false rfl trivial, by rw [HB0.out]; exact HwW.out⟩
      · go_ret
        exact ⟨.mk true rfl trivial, by rw [HB0.out]; exact HwW.out⟩

end Go.Proofs.Qxb6627919a
