import Derived.Test.Qxb6627919aScan
namespace Go.Proofs.Qxb6627919a
open Go.RowKit
attribute [local go_sem ↓] Go.wp_at_zero Go.wp_at_succ

set_option maxHeartbeats 1000000 in
theorem search_any (ks : List (Int × ByteArray)) (ao : Option Addr) (cap : Nat) (x : Int × ByteArray) (w : World) (h : Row w ao ks) (hn : ks.length ≤ 1048576) (hs : sortedB ks = true) :
    Calls Try.prog 15 #[.slice ao ks.length cap, .agg #[.int .i64 x.1, .string x.2]] w fun e w' => e = .returned (.tuple #[.int .i64 (cnt ks x ks.length), .bool (anyB ks x ks.length)]) ∧ Below w.heap.size w w' := by
  generalize hL : ks.length = len
  rw [hL] at hn
  have HL : Hid (ks.length = len) := hL
  have HS : Hid (sortedB ks = true) := hs
  clear hL hs
  go_enter Try.func15, Try.ntmps15
  go_wp2
  generalize hW : w.alloc (.cells #[.int .i64 x.1, .string x.2] 30) = W
  obtain ⟨hsz, b0, b1, hwW⟩ := box_facts hW
  have hR := h.below hwW
  have HwW : Hid (Below w.heap.size w W) := hwW
  clear hW h hwW
  generalize hB0 : w.heap.size = B at *
  have HB0 : Hid (w.heap.size = B) := hB0
  clear hB0
  go_loopw [6, 7] (fun lo hi wr => ∃ l r : Nat, l ≤ r ∧ r ≤ len ∧ lo = .int .i64 l ∧ hi = .int .i64 r ∧ (∀ j, j < l → keyLt (key ks j) x = true) ∧ (∀ j, r ≤ j → j < len → keyLt (key ks j) x = false) ∧ Below W.heap.size W wr) (fun lo hi _ => (intOf hi).toNat - (intOf lo).toNat)
  case atStart => exact ⟨0, len, Nat.zero_le _, Nat.le_refl _, rfl, rfl, fun j hj => by omega, fun j _ hj => by omega, Below.refl _ _⟩
  case round =>
    obtain ⟨l, r, hlr, hrl, rfl, rfl, hlo, hhi, hbel⟩ := hrel
    have HB : Hid (Below W.heap.size W wr) := hbel
    have HLo : Hid (∀ j, j < l → keyLt (key ks j) x = true) := hlo
    have HHi : Hid (∀ j, r ≤ j → j < len → keyLt (key ks j) x = false) := hhi
    by_cases hlt : l < r
    · have hr := hR.below hbel
      obtain ⟨m, hm⟩ : ∃ m, m = (l + r) / 2 := ⟨_, rfl⟩
      obtain ⟨b, off, rfl, hb, c0, c1⟩ := key_cell hr (show m < ks.length by rw [HL.out]; omega)
      have d0 := (hbel.cell (p := ⟨B, 0, none⟩) (by simp; omega)).trans b0
      have d1 := (hbel.cell (p := ⟨B, 1, none⟩) (by simp; omega)).trans b1
      have hB : B < wr.heap.size := by have := hbel.size; omega
      clear hr hbel hR hlo hhi
      have hm1 : l ≤ m := by omega
      have hm2 : m < r := by omega
      have HM : Hid (m = (l + r) / 2) := hm
      clear hm
      go_wp2
      rw [show ((l : Int) + (r : Int)) / 2 = (m : Int) from by have := HM.out; omega]
      have j1 : (0 : Int) ≤ (m : Int) := by omega
      have j2 : (m : Int) < (len : Int) := by omega
      go_region_held3 (fun w' => w'.cell? ⟨b, off + m * 2, none⟩ = some (.int .i64 (key ks m).1) ∧ w'.cell? ⟨b, off + m * 2 + 1, none⟩ = some (.string (key ks m).2) ∧ w'.cell? ⟨B, 0, none⟩ = some (.int .i64 x.1) ∧ w'.cell? ⟨B, 1, none⟩ = some (.string x.2)) (first | go_keep | (refine ⟨?_, ?_, ?_, ?_⟩ <;> (rw [Below.cell ‹_› (by simp; omega)]; assumption))) (first | (go_at_call 17; refine (less_any _ _ _ _ _).mono ?_; rintro e w' ⟨rfl, hbl⟩))
      go_wp2
      · have ht : keyLt (key ks m) x = true := by assumption
        go_roundw
        case rel =>
          refine ⟨m + 1, r, by omega, hrl, by go_num, rfl, fun j hj => ?_, HHi.out, below_trans HB.out.drew hbl⟩
          exact le_lt (sorted_le HS.out j m (by omega) (by have := HL.out; omega)) ht
        case measure => simp [intOf]; omega
      · have ht : keyLt (key ks m) x = false := by assumption
        go_roundw
        case rel =>
          refine ⟨l, m, by omega, by omega, rfl, rfl, HLo.out, fun j h1 h2 => ?_, below_trans HB.out.drew hbl⟩
          cases hc : keyLt (key ks j) x with
          | false => rfl
          | true =>
            have := le_lt (sorted_le HS.out m j h1 (by have := HL.out; omega)) hc
            rw [ht] at this
            cases this
        case measure => simp [intOf]; omega
    · have e : l = r := by omega
      subst e
      have HE : Hid (Ends ks x l) := ⟨by have := HL.out; omega, hlo, fun j h1 h2 => hhi j h1 (by have := HL.out; omega)⟩
      have Hcnt : Hid (cnt ks x len = l) := by rw [← HL.out]; exact HE.out.cnt
      have Hany : Hid (anyB ks x len = (decide (l < len) && keySame (key ks l) x)) := by rw [← HL.out]; exact HE.out.any HS.out
      by_cases hll : l < len
      · have hr := hR.below hbel
        obtain ⟨b, off, rfl, hb, c0, c1⟩ := key_cell hr (show l < ks.length by rw [HL.out]; omega)
        have d0 := (hbel.cell (p := ⟨B, 0, none⟩) (by simp; omega)).trans b0
        have d1 := (hbel.cell (p := ⟨B, 1, none⟩) (by simp; omega)).trans b1
        clear hr hbel hR hlo hhi
        have j1 : (0 : Int) ≤ (l : Int) := by omega
        have j2 : (l : Int) < (len : Int) := by omega
        rcases Bool.eq_false_or_eq_true ((key ks l).1 == x.1) with q1 | q1
        · rcases Bool.eq_false_or_eq_true ((key ks l).2.toList == x.2.toList) with q2 | q2
          · go_wp2
            go_quiet (fail)
            go_wp2
            go_ret2
            refine ⟨by rw [Hcnt.out, Hany.out]; simp [hll, keySame, q1, q2], ?_⟩
            rw [HB0.out]
            exact HwW.out.trans ((below_drewN HB.out _).mono (by omega))
          · go_wp2
            go_quiet (fail)
            go_wp2
            go_ret2
            refine ⟨by rw [Hcnt.out, Hany.out]; simp [hll, keySame, q1, q2], ?_⟩
            rw [HB0.out]
            exact HwW.out.trans ((below_drewN HB.out _).mono (by omega))
        · go_wp2
          go_quiet (fail)
          go_wp2
          go_ret2
          refine ⟨by rw [Hcnt.out, Hany.out]; simp [hll, keySame, q1], ?_⟩
          rw [HB0.out]
          exact HwW.out.trans ((below_drewN HB.out _).mono (by omega))
      · clear hbel hR hlo hhi
        have hd : decide ((l : Int) < (len : Int)) = false := decide_eq_false (by omega)
        go_wp2
        go_quiet (fail)
        go_wp2
        go_ret2
        refine ⟨by rw [Hcnt.out, Hany.out]; simp [hll], ?_⟩
        rw [HB0.out]
        exact HwW.out.trans ((below_drewN HB.out _).mono (by omega))
end Go.Proofs.Qxb6627919a
