import Derived.Test.Qxb6628016aHeard
namespace Go.Proofs.Qxb6628016a
open Go.RowKit
attribute [local go_sem ↓] Go.wp_at_zero Go.wp_at_succ

theorem CRow.at {w : World} {b off m : Nat} {ep J : Nat → Int} (h : CRow w (some ⟨b, off, none⟩) m ep J) {k : Nat} (hk : k < m) : w.cell? ⟨b, off + k * 2, none⟩ = some (.int .u64 (ep k)) ∧ w.cell? ⟨b, off + k * 2 + 1, none⟩ = some (.int .i64 (J k)) := by
  obtain ⟨b', off', e, _, h0, h1⟩ := h k hk
  cases e
  exact ⟨h0, h1⟩
theorem BRow.at {w : World} {b off n : Nat} {bs : Nat → Bool} (h : BRow w (some ⟨b, off, none⟩) n bs) {k : Nat} (hk : k < n) : w.cell? ⟨b, off + k, none⟩ = some (.bool (bs k)) := by
  obtain ⟨b', off', e, _, h0⟩ := h k hk
  cases e
  exact h0

set_option maxRecDepth 100000 in
set_option maxHeartbeats 8000000 in
theorem voice_any (start : Int) (ao bo : Option Addr) (n c m d : Nat) (hnil : ao = none → n = 0) (bs : Nat → Bool) (ep J : Nat → Int) (w : World) (hB : BRow w ao n bs) (hC : CRow w bo m ep J) :
    Calls Try.prog 3 #[.int .u64 start, .slice ao n c, .slice bo m d] w fun e w' => e = .returned (.bool true) ∧ Below w.heap.size w w' := by
  go_enter Try.func3, Try.ntmps3
  go_wp2_with fail
  refine (zz5_any start ao bo n c m d _).mono ?_
  rintro e w' ⟨⟨r, rfl⟩, rfl⟩
  cases r
  · go_wp2
    go_ret
    exact ⟨rfl, Below.refl _ _⟩
  by_cases hbig : 65536 < n
  · go_wp2
    go_ret
    exact ⟨rfl, Below.refl _ _⟩
  by_cases hbig2 : 65536 < m
  · go_wp2
    go_ret
    exact ⟨rfl, Below.refl _ _⟩
  by_cases hbig3 : 1048576 < n + 16 * m
  · go_wp2
    go_ret
    exact ⟨rfl, Below.refl _ _⟩
  go_wp2_with fail
  go_loop [7] (fun i => ∃ k : Nat, k ≤ m ∧ i = .int .i64 k ∧ ∀ x, x < k → ep x = start → 0 ≤ J x ∧ J x < n) (fun i => m - (intOf i).toNat)
  case atStart => exact ⟨0, Nat.zero_le _, rfl, fun x hx => by omega⟩
  case round =>
    obtain ⟨k, hk, rfl, hin⟩ := hrel
    have HI : Hid (∀ x, x < k → ep x = start → 0 ≤ J x ∧ J x < n) := hin
    clear hin
    by_cases hlt : k < m
    · obtain ⟨b, off, rfl, _, c0, c1⟩ := hC k hlt
      clear hC hB hnil
      by_cases he : ep k = start
      · have hb : (ep k == start) = true := by rw [he]; simp
        have HE : Hid (ep k = start) := he
        clear he
        by_cases hj0 : J k < 0
        · go_wp2_with fail
          go_ret
          exact ⟨rfl, Below.refl _ _⟩
        by_cases hj1 : (n : Int) ≤ J k
        · go_wp2_with fail
          go_ret
          exact ⟨rfl, Below.refl _ _⟩
        · go_wp2_with fail
          go_round
          case rel =>
            refine ⟨k + 1, by omega, by go_num, fun x hx hex => ?_⟩
            by_cases e : x = k
            · subst e; omega
            · exact HI.out x (by omega) hex
          case measure => simp [intOf]; omega
      · have hb : (ep k == start) = false := by simp [he]
        have HE : Hid (ep k ≠ start) := he
        clear he
        go_wp2_with fail
        go_round
        case rel =>
          refine ⟨k + 1, by omega, by go_num, fun x hx hex => ?_⟩
          by_cases e : x = k
          · subst e; exact absurd hex HE.out
          · exact HI.out x (by omega) hex
        case measure => simp [intOf]; omega
    · have hkm : m = k := by omega
      subst hkm
      have hmk := run_make_row' (P := Try.prog) 29 3 (.int .i64 0) 8 Try.underlying29 Try.info3 rfl .i64 .i64 n (by omega) (by omega)
      go_wp2_with fail
      refine (clone_any ao n c (by omega) hnil bs _ hB).mono ?_
      rintro e w1 ⟨ho, cc, rfl, hnil1, hr1, hb1⟩
      go_wp2_with fail
      refine (clone_any ho n cc (by omega) hnil1 bs _ hr1.brow).mono ?_
      rintro e w2 ⟨oo, oc, rfl, -, hr2, hb2⟩
      have hC2 : CRow w2 bo m ep J := (hC.below hb1).below hb2
      have hr12 : BR w2 ho w.heap.size n bs := hr1.block fun h0 => hb2.block _ (hr1.lt h0)
      have hlt1 : n ≠ 0 → w.heap.size < w1.heap.size := hr1.lt
      have hlt2 : n ≠ 0 → w1.heap.size < w2.heap.size := hr2.lt
      have hle1 := hb1.size
      have hle2 := hb2.size
      have Hb2 : Hid (Below w.heap.size w w2) := below_trans hb1 hb2
      have hbo : ∀ x, bo = some x → 0 < m → x.block < w.heap.size := fun x hx hm => by
        obtain ⟨b, off, e, hb, _⟩ := hC 0 hm
        rw [hx] at e
        cases e
        exact hb
      have HBo : Hid (∀ x, bo = some x → 0 < m → x.block < w.heap.size) := hbo
      clear hB hC hr1 hb1 hb2 hbo hnil hnil1
      generalize w1.heap.size = O at *
      clear w1
      go_wp2_with fail
      have hF0 := World.rowIs_made w2 (.int .i64 0) n 3
      have hb3 : Below w2.heap.size w2 (w2.alloc (.cells (madeCells #[.int .i64 0] n) 3)) := (Below.refl _ _).alloc (Nat.le_refl _) _
      generalize w2.alloc (.cells (madeCells #[.int .i64 0] n) 3) = W3 at *
      clear hmk
      generalize hFe : w2.heap.size = F at *
      have HF : Hid (w2.heap.size = F) := hFe
      clear hFe
      go_loopw [10] (fun i wr => ∃ k : Nat, k ≤ m ∧ i = .int .i64 k ∧ wr.rowIs F 3 n (fun v => .int .i64 (fst0 (names start ep J v) k : Int)) ∧ Below F w2 wr) (fun i _ => m - (intOf i).toNat)
      case atStart => exact ⟨0, Nat.zero_le _, rfl, hF0, hb3⟩
      case round =>
        clear hF0 hb3
        obtain ⟨k, hk2, rfl, hrow, hbel⟩ := hrel
        have HR : Hid (wr.rowIs F 3 n (fun v => .int .i64 (fst0 (names start ep J v) k : Int))) := hrow
        have HBl : Hid (Below F w2 wr) := hbel
        by_cases hkl : k < m
        · obtain ⟨b, off, rfl, _, c0, c1⟩ := hC2.below (w' := wr) (by rw [HF.out]; exact hbel) k hkl
          by_cases he : ep k = start
          · obtain ⟨hj0, hj1⟩ := HI.out k hkl he
            obtain ⟨v0, hv0⟩ : ∃ v0 : Nat, J k = (v0 : Int) := ⟨(J k).toNat, by omega⟩
            rw [hv0] at c1 hj1
            have hv1 : v0 < n := by omega
            have f0 := hrow.cell hv1
            have f1 := hrow.frozen v0
            have HN : Hid (∀ v, names start ep J v k = decide (v = v0)) := fun v => names_yes he hv0
            have hb : (ep k == start) = true := by rw [he]; simp
            clear hrow hbel hC2 he hv0 hj0
            by_cases hz : fst0 (names start ep J v0) k = 0
            · have hz1 : ((fst0 (names start ep J v0) k : Int) == 0) = true := by rw [hz]; rfl
              have HZ : Hid (fst0 (names start ep J v0) k = 0) := hz
              clear hz
              go_wp2_with fail
              go_roundw
              case rel =>
                refine ⟨k + 1, by omega, by go_num, (HR.out.set v0 _).congr fun v _ => ?_, HBl.out.setCell (Nat.le_refl _) _⟩
                show (if v = v0 then Value.int .i64 ((k : Int) + 1) else .int .i64 (fst0 (names start ep J v) k : Int)) = _
                by_cases e : v = v0
                · subst e
                  rw [if_pos rfl, fst0_hit (by rw [HN.out]; simp) HZ.out]
                  go_num
                · rw [if_neg e, fst0_skip (by rw [HN.out]; simp [e])]
              case measure => simp [intOf]; omega
            · have hz1 : ((fst0 (names start ep J v0) k : Int) == 0) = false := by simp; omega
              have HZ : Hid (fst0 (names start ep J v0) k ≠ 0) := hz
              clear hz
              go_wp2_with fail
              go_roundw
              case rel =>
                refine ⟨k + 1, by omega, by go_num, HR.out.congr fun v _ => ?_, HBl.out⟩
                by_cases e : v = v0
                · subst e
                  rw [fst0_kept HZ.out]
                · rw [fst0_skip (by rw [HN.out]; simp [e])]
              case measure => simp [intOf]; omega
          · have hb : (ep k == start) = false := by simp [he]
            have HE : Hid (ep k ≠ start) := he
            clear hrow hbel hC2 he
            go_wp2_with fail
            go_roundw
            case rel => exact ⟨k + 1, by omega, by go_num, HR.out.congr fun v _ => by rw [fst0_skip (names_no HE.out)], HBl.out⟩
            case measure => simp [intOf]; omega
        · have hkm : m = k := by omega
          subst hkm
          have hC3 : CRow wr bo m ep J := hC2.below (by rw [HF.out]; exact hbel)
          have hr13 : BR wr ho w.heap.size n bs := hr12.block fun h0 => hbel.block _ (by have := hlt1 h0; have := hlt2 h0; omega)
          have hr23 : BR wr oo O n bs := hr2.block fun h0 => hbel.block _ (hlt2 h0)
          have Hb3 : Hid (Below w.heap.size w wr) := Hb2.out.trans (hbel.mono (by omega))
          have hFl : F < wr.heap.size := hrow.lt
          clear hrow hbel hC2 hr12 hr2 HBl Hb2
          go_wp2_with fail
          refine (countFalse_any oo n oc (by omega) bs _ hr23.brow).mono ?_
          rintro e w4 ⟨rfl, rfl⟩
          go_wp2_with fail
          refine (newState_any start ho n cc _ _).mono ?_
          rintro e w5 ⟨rfl, s8, s9, s10, sf, hb5, hsz5⟩
          have hC5 := hC3.below hb5
          have hr15 : BR w5 ho w.heap.size n bs := hr13.block fun h0 => hb5.block _ (hr13.lt h0)
          have hr25 : BR w5 oo O n bs := hr23.block fun h0 => hb5.block _ (hr23.lt h0)
          have hF5 := HR.out.of_block (hb5.block F hFl)
          have Hb5 : Hid (Below w.heap.size w w5) := below_trans Hb3.out hb5
          have hwS : w.heap.size ≤ wr.heap.size := Hb3.out.size
          clear hC3 hr13 hr23 HR Hb3 hb5
          generalize hSB : wr.heap.size = SB at *
          clear hSB
          obtain ⟨H2, hr5, hne5, hH2⟩ : ∃ H2, BR w5 ho H2 n bs ∧ (n ≠ 0 → SB ≠ H2) ∧ (H2 = SB ∨ (w.heap.size ≤ H2 ∧ H2 < O ∧ O < F)) := by
            by_cases h0 : n = 0
            · exact ⟨SB, .inl h0, fun h => absurd h0 h, .inl rfl⟩
            · have := hlt1 h0
              have := hlt2 h0
              exact ⟨_, hr15, fun _ => by omega, .inr ⟨Nat.le_refl _, by omega, by omega⟩⟩
          have hst : St w5 SB ho H2 n cc start (heardAt bs start ep J 0) (cf (heardAt bs start ep J 0) n : Int) :=
            St.congr ⟨s8, s9, s10, sf, hr5, hne5⟩ (fun i _ => (heardAt_zero bs start ep J i).symm) (by rw [cf_congr fun i _ => heardAt_zero bs start ep J i])
          have HOne : Hid (n ≠ 0 → O ≠ SB ∧ O ≠ H2) := fun h0 => by have := hlt2 h0; rcases hH2 with h | h <;> omega
          have HFne : Hid (F ≠ SB ∧ F ≠ H2) := by show F ≠ SB ∧ F ≠ H2; rcases hH2 with h | h <;> omega
          have HBne : Hid (∀ x, bo = some x → 0 < m → x.block ≠ SB ∧ x.block ≠ H2) := fun x hx hm => by have := HBo.out x hx hm; rcases hH2 with h | h <;> omega
          have HH2 : Hid (w.heap.size ≤ H2) := by show w.heap.size ≤ H2; rcases hH2 with h | h <;> omega
          clear s8 s9 s10 sf hr5 hr15 hne5 hH2 hlt1 hlt2 HBo
          have hcb := cf_le bs n
          go_wp2_with fail
          go_loopw [14, 15] (fun t i wx => ∃ k T : Nat, k ≤ m ∧ i = .int .i64 k ∧ t = .int .i64 T ∧ St wx SB ho H2 n cc start (heardAt bs start ep J k) (cf (heardAt bs start ep J k) n : Int) ∧ T + cf (heardAt bs start ep J k) n = cf bs n ∧ Only2 SB H2 w5 wx) (fun _ i _ => m - (intOf i).toNat)
          case atStart => exact ⟨0, 0, Nat.zero_le _, rfl, rfl, hst, by rw [Nat.zero_add, cf_congr fun i _ => heardAt_zero bs start ep J i], Only2.refl _ _ _⟩
          case round =>
            clear hst
            obtain ⟨k, T, hk3, rfl, rfl, hst, hT, hon⟩ := hrel
            have HS : Hid (St wr SB ho H2 n cc start (heardAt bs start ep J k) (cf (heardAt bs start ep J k) n : Int)) := hst
            have HT : Hid (T + cf (heardAt bs start ep J k) n = cf bs n) := hT
            have HO : Hid (Only2 SB H2 w5 wr) := hon
            have hTn : T ≤ n := by omega
            clear hst hT hon
            by_cases hkl : k < m
            · obtain ⟨b, off, rfl, hbw, c0, c1⟩ := hC5.only HO.out (fun x hx => HBne.out x hx (by omega)) k hkl
              obtain ⟨nb1, nb2⟩ := HBne.out _ rfl (by omega)
              by_cases he : ep k = start
              · obtain ⟨hj0, hj1⟩ := HI.out k hkl he
                obtain ⟨v0, hv0⟩ : ∃ v0 : Nat, J k = (v0 : Int) := ⟨(J k).toNat, by omega⟩
                rw [hv0] at c1 hj1
                rw [he] at c0
                have hv1 : v0 < n := by omega
                have HN : Hid (∀ v, names start ep J v k = decide (v = v0)) := fun v => names_yes he hv0
                have HNv : Hid (names start ep J v0 k = true) := by show _ = _; rw [HN.out]; simp
                have hb : (start == start) = true := by simp
                have j1 : (v0 : Int) < (n : Int) := by omega
                obtain ⟨ob, ooff, rfl, _, _⟩ := hr25.brow v0 hv1
                have HX : Hid (∀ wx, Only2 SB H2 w5 wx → wx.cell? ⟨b, off + k * 2, none⟩ = some (.int .u64 start) ∧ wx.cell? ⟨b, off + k * 2 + 1, none⟩ = some (.int .i64 (v0 : Int)) ∧ wx.cell? ⟨ob, ooff + v0, none⟩ = some (.bool (bs v0)) ∧
                    wx.cell? ⟨F, v0, none⟩ = some (.int .i64 (fst0 (names start ep J v0) m : Int))) := fun wx h => by
                  have x1 := (hC5.only h (fun x hx => HBne.out x hx (by omega))).at hkl
                  rw [he, hv0] at x1
                  exact ⟨x1.1, x1.2, (hr25.block (fun h0 => h.block O (hr25.lt h0) (HOne.out h0).1 (HOne.out h0).2)).brow.at hv1, (hF5.of_block (h.block F hF5.lt HFne.out.1 HFne.out.2)).cell hv1⟩
                have hfl := fst0_le (names start ep J v0) m
                clear he hv0 hj0 hC5 hr25 hF5
                cases hh : heardAt bs start ep J k v0 with
                | true =>
                  have HH : Hid (heardAt bs start ep J k v0 = true) := hh
                  clear hh
                  have HU : Hid (∀ v, heardAt bs start ep J (k + 1) v = heardAt bs start ep J k v) := fun v => by
                    by_cases e : v = v0
                    · rw [e, heardAt_yes HNv.out, HH.out]
                    · exact heardAt_no (by rw [HN.out]; simp [e])
                  obtain ⟨x1, x2, x3, x4⟩ := HX.out _ HO.out.drew
                  go_wp2_with fail
                  go_region_held3 (fun w' => w'.cell? ⟨b, off + k * 2, none⟩ = some (.int .u64 start) ∧ w'.cell? ⟨b, off + k * 2 + 1, none⟩ = some (.int .i64 (v0 : Int))) (first | exact ⟨c0, c1⟩) (first | (go_at_call 9; refine (heard_again SB ho H2 n cc start _ _ _ _ HS.out.drew hv1 HH.out).mono ?_; rintro r w' ⟨rfl, rfl⟩))
                  cases hbs : bs v0 with
                  | true =>
                    rw [hbs] at x3
                    clear hbs
                    go_wp2_with fail
                    go_roundw
                    case rel =>
                      have hc : cf (heardAt bs start ep J (k + 1)) n = cf (heardAt bs start ep J k) n := cf_congr fun i _ => HU.out i
                      exact ⟨k + 1, T, by omega, by go_num, rfl, HS.out.drew.congr (fun i _ => (HU.out i).symm) (by rw [hc]), by rw [hc]; exact HT.out, HO.out.drew⟩
                    case measure => simp [intOf]; omega
                  | false =>
                    have hany : any0 (names start ep J v0) k = true := by have := HH.out; unfold heardAt at this; rw [hbs] at this; exact this
                    have hne : ¬ fst0 (names start ep J v0) m = k + 1 := fun e => by rw [(fst0_here hkl HNv.out).1 e] at hany; cases hany
                    have hq : ((fst0 (names start ep J v0) m : Int) == (k : Int) + 1) = false := by simp; omega
                    rw [hbs] at x3
                    clear hbs hany hne
                    go_wp2_with fail
                    go_roundw
                    case rel =>
                      have hc : cf (heardAt bs start ep J (k + 1)) n = cf (heardAt bs start ep J k) n := cf_congr fun i _ => HU.out i
                      exact ⟨k + 1, T, by omega, by go_num, rfl, HS.out.drew.congr (fun i _ => (HU.out i).symm) (by rw [hc]), by rw [hc]; exact HT.out, HO.out.drew⟩
                    case measure => simp [intOf]; omega
                | false =>
                  have HH : Hid (heardAt bs start ep J k v0 = false) := hh
                  clear hh
                  have HU : Hid (∀ v, up (heardAt bs start ep J k) v0 v = heardAt bs start ep J (k + 1) v) := fun v => by
                    unfold up
                    by_cases e : v = v0
                    · rw [if_pos e, e, heardAt_yes HNv.out]
                    · rw [if_neg e, heardAt_no (by rw [HN.out]; simp [e])]
                  have hcu : cf (heardAt bs start ep J (k + 1)) n + 1 = cf (heardAt bs start ep J k) n := by
                    rw [← cf_up hv1 HH.out, cf_congr fun i _ => HU.out i]
                  have hcl := cf_le (heardAt bs start ep J k) n
                  have hbo : (bs v0 || any0 (names start ep J v0) k) = false := HH.out
                  rw [Bool.or_eq_false_iff] at hbo
                  obtain ⟨hbs, hany⟩ := hbo
                  have heq : fst0 (names start ep J v0) m = k + 1 := (fst0_here hkl HNv.out).2 hany
                  have hq : ((fst0 (names start ep J v0) m : Int) == (k : Int) + 1) = true := by rw [heq]; simp
                  have HBs : Hid (bs v0 = false) := hbs
                  have HCu : Hid (cf (heardAt bs start ep J (k + 1)) n + 1 = cf (heardAt bs start ep J k) n) := hcu
                  have hc1 : 1 ≤ (cf (heardAt bs start ep J k) n : Int) ∧ (cf (heardAt bs start ep J k) n : Int) ≤ 1048576 := by omega
                  clear hbs hany heq hcu
                  go_wp2_with fail
                  go_region_held3 (fun w' => w'.cell? ⟨b, off + k * 2, none⟩ = some (.int .u64 start) ∧ w'.cell? ⟨b, off + k * 2 + 1, none⟩ = some (.int .i64 (v0 : Int))) (first | exact ⟨c0, c1⟩ | exact ⟨(HX.out _ (HO.out.drew.trans hon2)).1, (HX.out _ (HO.out.drew.trans hon2)).2.1⟩) (first | (go_at_call 9; refine (heard_new SB ho H2 n cc start _ _ hc1 _ _ HS.out.drew hv1 HH.out).mono ?_; rintro r w' ⟨rfl, hst2, hon2⟩))
                  have HO2 : Hid (Only2 SB H2 w5 w') := HO.out.drew.trans hon2
                  have HS2 : Hid (St w' SB ho H2 n cc start (up (heardAt bs start ep J k) v0) ((cf (heardAt bs start ep J k) n : Int) - 1)) := hst2
                  obtain ⟨x1, x2, x3, x4⟩ := HX.out _ HO2.out
                  rw [HBs.out] at x3
                  clear hst2 hon2
                  go_wp2_with fail
                  go_roundw
                  case rel =>
                    have h1 := HCu.out
                    have h2 := HT.out
                    exact ⟨k + 1, T + 1, by omega, by go_num, by go_num, HS2.out.congr (fun i _ => HU.out i) (by omega), by omega, HO2.out⟩
                  case measure => simp [intOf]; omega
              · have hb : (ep k == start) = false := by simp [he]
                have HE : Hid (ep k ≠ start) := he
                clear he hC5 hr25 hF5
                go_wp2_with fail
                go_region_held3 (fun w' => w'.cell? ⟨b, off + k * 2, none⟩ = some (.int .u64 (ep k)) ∧ w'.cell? ⟨b, off + k * 2 + 1, none⟩ = some (.int .i64 (J k))) (first | exact ⟨c0, c1⟩) (first | (go_at_call 9; refine (heard_other SB ho H2 n cc start _ _ _ _ _ HS.out.drew HE.out).mono ?_; rintro r w' ⟨rfl, rfl⟩))
                go_wp2_with fail
                go_roundw
                case rel =>
                  have hc : cf (heardAt bs start ep J (k + 1)) n = cf (heardAt bs start ep J k) n := cf_congr fun i _ => heardAt_no (names_no HE.out)
                  exact ⟨k + 1, T, by omega, by go_num, rfl, HS.out.drew.congr (fun i _ => (heardAt_no (names_no HE.out)).symm) (by rw [hc]), by rw [hc]; exact HT.out, HO.out.drew⟩
                case measure => simp [intOf]; omega
            · have hkm : m = k := by omega
              subst hkm
              have s9 := HS.out.c9
              have s10 := HS.out.c10
              clear hC5
              go_wp2_with fail
              refine (ZZheard_any SB _ _ s9).mono ?_
              rintro r w' ⟨rfl, rfl⟩
              go_wp2_with fail
              clear s9 s10
              go_loopw [19] (fun i wx => ∃ v : Nat, v ≤ n ∧ i = .int .i64 v ∧ St wx SB ho H2 n cc start (heardAt bs start ep J m) (cf (heardAt bs start ep J m) n : Int) ∧ Only2 SB H2 w5 wx) (fun i _ => n - (intOf i).toNat)
              case atStart => exact ⟨0, Nat.zero_le _, rfl, HS.out, HO.out⟩
              case round =>
                clear HS HO
                obtain ⟨v, hv, rfl, hst, hon⟩ := hrel
                have HS : Hid (St wr SB ho H2 n cc start (heardAt bs start ep J m) (cf (heardAt bs start ep J m) n : Int)) := hst
                have HO : Hid (Only2 SB H2 w5 wr) := hon
                clear hst hon
                by_cases hvl : v < n
                · have x4 := (hF5.of_block (HO.out.block F hF5.lt HFne.out.1 HFne.out.2)).cell hvl
                  obtain ⟨ob, ooff, rfl, _, x3⟩ := (hr25.block (fun h0 => HO.out.block O (hr25.lt h0) (HOne.out h0).1 (HOne.out h0).2)).brow v hvl
                  obtain ⟨hb, hoff, rfl, _, x5⟩ := HS.out.row.brow v hvl
                  have j1 : (v : Int) < (n : Int) := by omega
                  have hz := fst0_zero (p := names start ep J v) (i := m)
                  clear hF5 hr25
                  have hhd : heardAt bs start ep J m v = (bs v || any0 (names start ep J v) m) := rfl
                  rw [hhd] at x5
                  cases hbs : bs v with
                  | true =>
                    rw [hbs] at x3 x5
                    simp only [Bool.true_or] at x5
                    clear hz hbs hhd
                    go_wp2_with fail
                    go_quiet (fail)
                    go_wp2_with fail
                    go_roundw
                    case rel => exact ⟨v + 1, by omega, by go_num, HS.out.drewN _, HO.out.drewN _⟩
                    case measure => simp [intOf]; omega
                  | false =>
                    rw [hbs] at x3 x5
                    simp only [Bool.false_or] at x5
                    cases hany : any0 (names start ep J v) m with
                    | true =>
                      rw [hany] at x5
                      have hq : ((fst0 (names start ep J v) m : Int) != 0) = true := by
                        have : fst0 (names start ep J v) m ≠ 0 := fun e => by rw [hz.1 e] at hany; cases hany
                        rw [bne_iff_ne]; omega
                      clear hz hbs hany hhd
                      go_wp2_with fail
                      go_quiet (fail)
                      go_wp2_with fail
                      go_roundw
                      case rel => exact ⟨v + 1, by omega, by go_num, HS.out.drewN _, HO.out.drewN _⟩
                      case measure => simp [intOf]; omega
                    | false =>
                      rw [hany] at x5
                      have hq : ((fst0 (names start ep J v) m : Int) != 0) = false := by rw [hz.2 hany]; rfl
                      clear hz hbs hany hhd
                      go_wp2_with fail
                      go_quiet (fail)
                      go_wp2_with fail
                      go_roundw
                      case rel => exact ⟨v + 1, by omega, by go_num, HS.out.drewN _, HO.out.drewN _⟩
                      case measure => simp [intOf]; omega
                · have s10 := HS.out.c10
                  have hT := HT.out
                  have hq : ((cf (heardAt bs start ep J m) n : Int) == (cf bs n : Int) - (T : Int)) = true := by rw [beq_iff_eq]; omega
                  have hq2 : ((cf (heardAt bs start ep J m) n : Int) == (cf (heardAt bs start ep J m) n : Int)) = true := by simp
                  clear hF5 hr25 hT
                  go_wp2_with fail
                  refine (ZZunheard_any SB _ _ s10).mono ?_
                  rintro r w' ⟨rfl, rfl⟩
                  go_wp2_with fail
                  refine (countFalse_any ho n cc (by omega) _ _ HS.out.row.brow).mono ?_
                  rintro r w' ⟨rfl, rfl⟩
                  go_wp2_with fail
                  go_ret
                  refine ⟨rfl, ?_⟩
                  exact Only2.below Hb5.out HO.out (Hb5.out.size) hwS HH2.out
end Go.Proofs.Qxb6628016a
