import Derived.Test.Qxb6627919aKey
namespace Go.Proofs.Qxb6627919a
open Go.RowKit
attribute [local go_sem ↓] Go.wp_at_zero Go.wp_at_succ

set_option maxHeartbeats 1000000 in
theorem keysSorted_any (ks : List (Int × ByteArray)) (ao : Option Addr) (cap : Nat) (w : World) (h : Row w ao ks) (hn : ks.length ≤ 1048576) :
    Calls Try.prog 7 #[.slice ao ks.length cap] w fun e w' => e = .returned (.bool (sortedB ks)) ∧ Below w.heap.size w w' := by
  generalize hL : ks.length = len
  rw [hL] at hn
  have HL : Hid (ks.length = len) := hL
  clear hL
  go_enter Try.func7, Try.ntmps7
  go_wp2
  go_loopw [3] (fun i wr => ∃ k : Nat, 1 ≤ k ∧ (k ≤ len ∨ k = 1) ∧ i = .int .i64 k ∧ (∀ j, 1 ≤ j → j < k → keyLt (key ks j) (key ks (j - 1)) = false) ∧ Below w.heap.size w wr) (fun i _ => len - (intOf i).toNat)
  case atStart => exact ⟨1, Nat.le_refl _, .inr rfl, rfl, fun j _ _ => by omega, Below.refl _ _⟩
  case round =>
    obtain ⟨k, hk1, hk, rfl, hord, hbel⟩ := hrel
    have HO : Hid (∀ j, 1 ≤ j → j < k → keyLt (key ks j) (key ks (j - 1)) = false) := hord
    have HB : Hid (Below w.heap.size w wr) := hbel
    by_cases hlt : k < len
    · have hr := h.below hbel
      obtain ⟨b, off, rfl, hb, c0, c1⟩ := key_cell hr (show k < ks.length by rw [HL.out]; exact hlt)
      obtain ⟨b', off', e, _, d0, d1⟩ := key_cell hr (show k - 1 < ks.length by rw [HL.out]; omega)
      simp only [Option.some.injEq, Addr.mk.injEq, and_true] at e
      obtain ⟨rfl, rfl⟩ := e
      clear hr hord hbel h
      have hw : IntKind.i64.wrap ((k : Int) - 1) = ((k - 1 : Nat) : Int) := by rw [IntKind.wrap_i64]; omega
      have j0 : (0 : Int) ≤ ((k - 1 : Nat) : Int) := by omega
      have j1 : ((k - 1 : Nat) : Int) < (len : Int) := by omega
      have j2 : (k : Int) < (len : Int) := by omega
      go_wp2
      go_region_held3 (fun w' => w'.cell? ⟨b, off + k * 2, none⟩ = some (.int .i64 (key ks k).1) ∧ w'.cell? ⟨b, off + k * 2 + 1, none⟩ = some (.string (key ks k).2) ∧ w'.cell? ⟨b, off + (k - 1) * 2, none⟩ = some (.int .i64 (key ks (k - 1)).1) ∧ w'.cell? ⟨b, off + (k - 1) * 2 + 1, none⟩ = some (.string (key ks (k - 1)).2)) (first | go_keep | (refine ⟨?_, ?_, ?_, ?_⟩ <;> (rw [Below.cell ‹_› (by simpa using hb)]; assumption))) (first | (go_at_call 14; refine (keyLess_any _ _ _ _ _).mono ?_; rintro e w' ⟨rfl, hbl⟩))
      go_wp2
      · have ht : keyLt (key ks k) (key ks (k - 1)) = true := by assumption
        go_ret
        exact ⟨by rw [sorted_no hk1 (by rw [HL.out]; exact hlt) ht]; rfl, below_trans HB.out.drew hbl⟩
      · have ht : keyLt (key ks k) (key ks (k - 1)) = false := by assumption
        go_roundw
        case rel =>
          refine ⟨k + 1, by omega, .inl (by omega), by go_num, fun j h1 h2 => ?_, below_trans HB.out.drew hbl⟩
          by_cases e : j = k
          · rw [e]; exact ht
          · exact HO.out j h1 (by omega)
        case measure => simp [intOf]; omega
    · clear hord hbel h
      go_wp2
      go_ret
      exact ⟨by rw [sorted_yes fun j h1 h2 => HO.out j h1 (by have := HL.out; omega)]; rfl, HB.out⟩

set_option maxHeartbeats 1000000 in
theorem countLess_any (ks : List (Int × ByteArray)) (ao : Option Addr) (cap : Nat) (x : Int × ByteArray) (w : World) (h : Row w ao ks) (hn : ks.length ≤ 1048576) :
    Calls Try.prog 11 #[.slice ao ks.length cap, .agg #[.int .i64 x.1, .string x.2]] w fun e w' => e = .returned (.int .i64 (cnt ks x ks.length)) ∧ Below w.heap.size w w' := by
  generalize hL : ks.length = len
  rw [hL] at hn
  have HL : Hid (ks.length = len) := hL
  clear hL
  go_enter Try.func11, Try.ntmps11
  go_wp2
  generalize hW : w.alloc (.cells #[.int .i64 x.1, .string x.2] 24) = W
  obtain ⟨hsz, b0, b1, hwW⟩ := box_facts hW
  have hR := h.below hwW
  have HwW : Hid (Below w.heap.size w W) := hwW
  clear hW h hwW
  generalize hB0 : w.heap.size = B at *
  have HB0 : Hid (w.heap.size = B) := hB0
  clear hB0
  go_loopw [5, 6] (fun c i wr => ∃ k : Nat, k ≤ len ∧ i = .int .i64 k ∧ c = .int .i64 (cnt ks x k) ∧ Below W.heap.size W wr) (fun _ i _ => len - (intOf i).toNat)
  case atStart => exact ⟨0, Nat.zero_le _, rfl, rfl, Below.refl _ _⟩
  case round =>
    obtain ⟨k, hk, rfl, rfl, hbel⟩ := hrel
    have HB : Hid (Below W.heap.size W wr) := hbel
    have hc := cnt_le ks x k
    by_cases hlt : k < len
    · have hr := hR.below hbel
      obtain ⟨b, off, rfl, hb, c0, c1⟩ := key_cell hr (show k < ks.length by rw [HL.out]; exact hlt)
      have d0 := (hbel.cell (p := ⟨B, 0, none⟩) (by simp; omega)).trans b0
      have d1 := (hbel.cell (p := ⟨B, 1, none⟩) (by simp; omega)).trans b1
      have hB : B < wr.heap.size := by have := hbel.size; omega
      clear hr hbel hR
      have j2 : (k : Int) < (len : Int) := by omega
      go_wp2
      go_region_held3 (fun w' => w'.cell? ⟨b, off + k * 2, none⟩ = some (.int .i64 (key ks k).1) ∧ w'.cell? ⟨b, off + k * 2 + 1, none⟩ = some (.string (key ks k).2) ∧ w'.cell? ⟨B, 0, none⟩ = some (.int .i64 x.1) ∧ w'.cell? ⟨B, 1, none⟩ = some (.string x.2)) (first | go_keep | (refine ⟨?_, ?_, ?_, ?_⟩ <;> (rw [Below.cell ‹_› (by simp; omega)]; assumption))) (first | (go_at_call 14; refine (keyLess_any _ _ _ _ _).mono ?_; rintro e w' ⟨rfl, hbl⟩))
      go_wp2
      · have ht : keyLt (key ks k) x = true := by assumption
        go_roundw
        case rel => exact ⟨k + 1, by omega, by go_num, by rw [cnt_hit ht]; go_num, below_trans HB.out.drew hbl⟩
        case measure => simp [intOf]; omega
      · have ht : keyLt (key ks k) x = false := by assumption
        go_roundw
        case rel => exact ⟨k + 1, by omega, by go_num, by rw [cnt_miss ht], below_trans HB.out.drew hbl⟩
        case measure => simp [intOf]; omega
    · have e : k = len := by omega
      subst e
      clear hbel hR
      go_wp2
      go_ret
      exact ⟨rfl, by rw [HB0.out]; exact HwW.out.trans (HB.out.mono (by omega))⟩

set_option maxHeartbeats 1000000 in
theorem anyEqual_any (ks : List (Int × ByteArray)) (ao : Option Addr) (cap : Nat) (x : Int × ByteArray) (w : World) (h : Row w ao ks) (hn : ks.length ≤ 1048576) :
    Calls Try.prog 12 #[.slice ao ks.length cap, .agg #[.int .i64 x.1, .string x.2]] w fun e w' => e = .returned (.bool (anyB ks x ks.length)) ∧ Below w.heap.size w w' := by
  generalize hL : ks.length = len
  rw [hL] at hn
  have HL : Hid (ks.length = len) := hL
  clear hL
  go_enter Try.func12, Try.ntmps12
  go_wp2
  generalize hW : w.alloc (.cells #[.int .i64 x.1, .string x.2] 24) = W
  obtain ⟨hsz, b0, b1, hwW⟩ := box_facts hW
  have hR := h.below hwW
  have HwW : Hid (Below w.heap.size w W) := hwW
  clear hW h hwW
  generalize hB0 : w.heap.size = B at *
  have HB0 : Hid (w.heap.size = B) := hB0
  clear hB0
  go_loopw [5] (fun i wr => ∃ k : Nat, k ≤ len ∧ i = .int .i64 k ∧ (∀ j, j < k → keySame (key ks j) x = false) ∧ Below W.heap.size W wr) (fun i _ => len - (intOf i).toNat)
  case atStart => exact ⟨0, Nat.zero_le _, rfl, fun j hj => by omega, Below.refl _ _⟩
  case round =>
    obtain ⟨k, hk, rfl, hno, hbel⟩ := hrel
    have HB : Hid (Below W.heap.size W wr) := hbel
    have HN : Hid (∀ j, j < k → keySame (key ks j) x = false) := hno
    by_cases hlt : k < len
    · have hr := hR.below hbel
      obtain ⟨b, off, rfl, hb, c0, c1⟩ := key_cell hr (show k < ks.length by rw [HL.out]; exact hlt)
      have d0 := (hbel.cell (p := ⟨B, 0, none⟩) (by simp; omega)).trans b0
      have d1 := (hbel.cell (p := ⟨B, 1, none⟩) (by simp; omega)).trans b1
      have hB : B < wr.heap.size := by have := hbel.size; omega
      clear hr hbel hR hno
      have j2 : (k : Int) < (len : Int) := by omega
      go_wp2
      go_region_held3 (fun w' => w'.cell? ⟨b, off + k * 2, none⟩ = some (.int .i64 (key ks k).1) ∧ w'.cell? ⟨b, off + k * 2 + 1, none⟩ = some (.string (key ks k).2) ∧ w'.cell? ⟨B, 0, none⟩ = some (.int .i64 x.1) ∧ w'.cell? ⟨B, 1, none⟩ = some (.string x.2)) (first | go_keep | (refine ⟨?_, ?_, ?_, ?_⟩ <;> (rw [Below.cell ‹_› (by simp; omega)]; assumption))) (first | (go_at_call 16; refine (keyEq_any _ _ _ _ _).mono ?_; rintro e w' ⟨rfl, hbl⟩))
      go_wp2
      · have ht : keySame (key ks k) x = true := by assumption
        go_ret
        exact ⟨by rw [any_yes hlt ht]; rfl, by rw [HB0.out]; exact HwW.out.trans ((below_trans HB.out.drew hbl).mono (by omega))⟩
      · have ht : keySame (key ks k) x = false := by assumption
        go_roundw
        case rel =>
          refine ⟨k + 1, by omega, by go_num, fun j hj => ?_, below_trans HB.out.drew hbl⟩
          by_cases e : j = k
          · rw [e]; exact ht
          · exact HN.out j (by omega)
        case measure => simp [intOf]; omega
    · have e : k = len := by omega
      subst e
      clear hbel hR hno
      go_wp2
      go_ret
      exact ⟨by rw [any_no HN.out]; rfl, by rw [HB0.out]; exact HwW.out.trans (HB.out.mono (by omega))⟩

end Go.Proofs.Qxb6627919a
