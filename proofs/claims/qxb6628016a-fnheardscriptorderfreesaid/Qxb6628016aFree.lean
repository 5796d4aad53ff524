import Derived.Test.Qxb6628016aStep
namespace Go.Proofs.Qxb6628016a
open Go.RowKit
attribute [local go_sem ↓] Go.wp_at_zero Go.wp_at_succ

theorem CRow.at {w : World} {b off m : Nat} {ep J : Nat → Int} (h : CRow w (some ⟨b, off, none⟩) m ep J) {k : Nat} (hk : k < m) : w.cell? ⟨b, off + k * 2, none⟩ = some (.int .u64 (ep k)) ∧ w.cell? ⟨b, off + k * 2 + 1, none⟩ = some (.int .i64 (J k)) := by
  obtain ⟨b', off', e, _, h0, h1⟩ := h k hk
  cases e
  exact ⟨h0, h1⟩
theorem BRow.at {w : World} {b off n : Nat} {bs : Nat → Bool} (h : BRow w (some ⟨b, off, none⟩) n bs) {k : Nat} (hk : k < n) : w.cell? ⟨b, off + k, none⟩ = some (.bool (bs k)) := by
  obtain ⟨b', off', e, _, h0⟩ := h k hk
  cases e
  exact h0

set_option maxRecDepth 100000 in
set_option maxHeartbeats 8000000 in
theorem free_any (start : Int) (ao bo : Option Addr) (n c m d : Nat) (hnil : ao = none → n = 0) (bs : Nat → Bool) (ep J : Nat → Int) (w : World) (hB : BRow w ao n bs) (hC : CRow w bo m ep J) :
    Calls Try.prog 4 #[.int .u64 start, .slice ao n c, .slice bo m d] w fun e w' => e = .returned (.bool true) ∧ Below w.heap.size w w' := by
  go_enter Try.func4, Try.ntmps4
  go_wp2_with fail
  refine (zz12_any start ao bo n c m d _).mono ?_
  rintro e w' ⟨⟨r, rfl⟩, rfl⟩
  cases r
  · go_wp2
    go_ret
    exact ⟨rfl, Below.refl _ _⟩
  by_cases hbig : 65536 < n
  · go_wp2
    go_ret
    exact ⟨rfl, Below.refl _ _⟩
  by_cases hbig2 : 65536 < m
  · go_wp2
    go_ret
    exact ⟨rfl, Below.refl _ _⟩
  by_cases hbig3 : 1048576 < n + 16 * m
  · go_wp2
    go_ret
    exact ⟨rfl, Below.refl _ _⟩
  go_wp2_with fail
  go_loop [7] (fun i => ∃ k : Nat, k ≤ m ∧ i = .int .i64 k ∧ ∀ x, x < k → ep x = start → 0 ≤ J x ∧ J x < n) (fun i => m - (intOf i).toNat)
  case atStart => exact ⟨0, Nat.zero_le _, rfl, fun x hx => by omega⟩
  case round =>
    obtain ⟨k, hk, rfl, hin⟩ := hrel
    have HI : Hid (∀ x, x < k → ep x = start → 0 ≤ J x ∧ J x < n) := hin
    clear hin
    by_cases hlt : k < m
    · obtain ⟨b, off, rfl, _, c0, c1⟩ := hC k hlt
      clear hC hB hnil
      by_cases he : ep k = start
      · have hb : (ep k == start) = true := by rw [he]; simp
        have HE : Hid (ep k = start) := he
        clear he
        by_cases hj0 : J k < 0
        · go_wp2_with fail
          go_ret
          exact ⟨rfl, Below.refl _ _⟩
        by_cases hj1 : (n : Int) ≤ J k
        · go_wp2_with fail
          go_ret
          exact ⟨rfl, Below.refl _ _⟩
        · go_wp2_with fail
          go_round
          case rel =>
            refine ⟨k + 1, by omega, by go_num, fun x hx hex => ?_⟩
            by_cases e : x = k
            · subst e; omega
            · exact HI.out x (by omega) hex
          case measure => simp [intOf]; omega
      · have hb : (ep k == start) = false := by simp [he]
        have HE : Hid (ep k ≠ start) := he
        clear he
        go_wp2_with fail
        go_round
        case rel =>
          refine ⟨k + 1, by omega, by go_num, fun x hx hex => ?_⟩
          by_cases e : x = k
          · subst e; exact absurd hex HE.out
          · exact HI.out x (by omega) hex
        case measure => simp [intOf]; omega
    · have hkm : m = k := by omega
      subst hkm
      have hmk := run_make_row' (P := Try.prog) 23 4 (.bool false) 1 Try.underlying23 Try.info4 rfl .i64 .i64 n (by omega) (by omega)
      go_wp2_with fail
      refine (clone_any ao n c (by omega) hnil bs _ hB).mono ?_
      rintro e w1 ⟨ho, cc, rfl, hnil1, hr1, hb1⟩
      go_wp2_with fail
      refine (clone_any ho n cc (by omega) hnil1 bs _ hr1.brow).mono ?_
      rintro e w2 ⟨oo, oc, rfl, hnil2, hr2, hb2⟩
      have hC2 : CRow w2 bo m ep J := (hC.below hb1).below hb2
      have hr12 : BR w2 ho w.heap.size n bs := hr1.block fun h0 => hb2.block _ (hr1.lt h0)
      have hlt1 : n ≠ 0 → w.heap.size < w1.heap.size := hr1.lt
      have hlt2 : n ≠ 0 → w1.heap.size < w2.heap.size := hr2.lt
      have hle1 := hb1.size
      have hle2 := hb2.size
      have Hb2 : Hid (Below w.heap.size w w2) := below_trans hb1 hb2
      have hbo : ∀ x, bo = some x → 0 < m → x.block < w.heap.size := fun x hx hm => by
        obtain ⟨b, off, e, hb, _⟩ := hC 0 hm
        rw [hx] at e
        cases e
        exact hb
      have HBo : Hid (∀ x, bo = some x → 0 < m → x.block < w.heap.size) := hbo
      clear hB hC hr1 hb1 hb2 hbo hnil hnil1
      generalize w1.heap.size = O at *
      clear w1
      go_wp2_with fail
      have hF0 := World.rowIs_made w2 (.bool false) n 4
      have hb3 : Below w2.heap.size w2 (w2.alloc (.cells (madeCells #[.bool false] n) 4)) := (Below.refl _ _).alloc (Nat.le_refl _) _
      generalize w2.alloc (.cells (madeCells #[.bool false] n) 4) = W3 at *
      clear hmk
      generalize hFe : w2.heap.size = F at *
      have HF : Hid (w2.heap.size = F) := hFe
      clear hFe
      go_loopw [10] (fun i wr => ∃ k : Nat, k ≤ m ∧ i = .int .i64 k ∧ wr.rowIs F 4 n (fun v => .bool (any0 (names start ep J v) k)) ∧ Below F w2 wr) (fun i _ => m - (intOf i).toNat)
      case atStart => exact ⟨0, Nat.zero_le _, rfl, hF0, hb3⟩
      case round =>
        clear hF0 hb3
        obtain ⟨k, hk2, rfl, hrow, hbel⟩ := hrel
        have HR : Hid (wr.rowIs F 4 n (fun v => .bool (any0 (names start ep J v) k))) := hrow
        have HBl : Hid (Below F w2 wr) := hbel
        by_cases hkl : k < m
        · obtain ⟨b, off, rfl, _, c0, c1⟩ := hC2.below (w' := wr) (by rw [HF.out]; exact hbel) k hkl
          by_cases he : ep k = start
          · obtain ⟨hj0, hj1⟩ := HI.out k hkl he
            obtain ⟨v0, hv0⟩ : ∃ v0 : Nat, J k = (v0 : Int) := ⟨(J k).toNat, by omega⟩
            rw [hv0] at c1 hj1
            have hv1 : v0 < n := by omega
            obtain ⟨z0, f0⟩ : ∃ z, wr.cell? ⟨F, v0, none⟩ = some z := ⟨_, hrow.cell hv1⟩
            have f1 := hrow.frozen v0
            have HN : Hid (∀ v, names start ep J v k = decide (v = v0)) := fun v => names_yes he hv0
            have hb : (ep k == start) = true := by rw [he]; simp
            clear hrow hbel hC2 he hv0 hj0
            go_wp2_with fail
            go_roundw
            case rel =>
              refine ⟨k + 1, by omega, by go_num, (HR.out.set v0 _).congr fun v _ => ?_, HBl.out.setCell (Nat.le_refl _) _⟩
              show (if v = v0 then Value.bool true else .bool (any0 (names start ep J v) k)) = .bool (any0 (names start ep J v) k || names start ep J v k)
              rw [HN.out]
              by_cases e : v = v0
              · rw [if_pos e]; simp [e]
              · rw [if_neg e]; simp [e]
            case measure => simp [intOf]; omega
          · have hb : (ep k == start) = false := by simp [he]
            have HE : Hid (ep k ≠ start) := he
            clear hrow hbel hC2 he
            go_wp2_with fail
            go_roundw
            case rel => exact ⟨k + 1, by omega, by go_num, HR.out.congr fun v _ => by rw [any0, names_no HE.out, Bool.or_false], HBl.out⟩
            case measure => simp [intOf]; omega
        · have hkm : m = k := by omega
          subst hkm
          have hC3 : CRow wr bo m ep J := hC2.below (by rw [HF.out]; exact hbel)
          have hr13 : BR wr ho w.heap.size n bs := hr12.block fun h0 => hbel.block _ (by have := hlt1 h0; have := hlt2 h0; omega)
          have hr23 : BR wr oo O n bs := hr2.block fun h0 => hbel.block _ (hlt2 h0)
          have Hb3 : Hid (Below w.heap.size w wr) := Hb2.out.trans (hbel.mono (by omega))
          have hFl : F < wr.heap.size := hrow.lt
          clear hrow hbel hC2 hr12 hr2 HBl Hb2
          go_wp2_with fail
          go_loop [11, 12] (fun t i => ∃ k N : Nat, k ≤ n ∧ i = .int .i64 k ∧ t = .int .i64 N ∧ N + cf (heardAt bs start ep J m) k = cf bs k) (fun _ i => n - (intOf i).toNat)
          case atStart => exact ⟨0, 0, Nat.zero_le _, rfl, rfl, rfl⟩
          case round =>
            obtain ⟨k, N, hk4, rfl, rfl, hN⟩ := hrel
            have HNn : Hid (N + cf (heardAt bs start ep J m) k = cf bs k) := hN
            have hcl := cf_le bs k
            have hNk : N ≤ k := by omega
            clear hN hcl
            by_cases hkl2 : k < n
            · have x4 := HR.out.cell hkl2
              obtain ⟨ob, ooff, rfl, _, x3⟩ := hr23.brow k hkl2
              clear hC3 hr13 hr23
              have hhd : heardAt bs start ep J m k = (bs k || any0 (names start ep J k) m) := rfl
              have HHd : Hid (heardAt bs start ep J m k = (bs k || any0 (names start ep J k) m)) := hhd
              clear hhd
              cases hbs : bs k <;> cases hany : any0 (names start ep J k) m
              all_goals
                rw [hbs] at x3
                rw [hany] at x4
                have HBs : Hid (bs k = _) := hbs
                have HAn : Hid (any0 (names start ep J k) m = _) := hany
                clear hbs hany
                go_wp2_with fail
                go_round
                case rel =>
                  have h1 := HNn.out
                  have h2 := HHd.out
                  rw [HBs.out, HAn.out] at h2
                  first
                    | exact ⟨k + 1, N, by omega, by go_num, rfl, by rw [cf_true h2, cf_true HBs.out]; exact h1⟩
                    | exact ⟨k + 1, N, by omega, by go_num, rfl, by rw [cf_false h2, cf_false HBs.out]; omega⟩
                    | exact ⟨k + 1, N + 1, by omega, by go_num, by go_num, by rw [cf_true h2, cf_false HBs.out]; omega⟩
                case measure => simp [intOf]; omega
            · have hkn : n = k := by omega
              subst hkn
              go_wp2_with fail
              refine (countFalse_any oo n oc (by omega) bs _ hr23.brow).mono ?_
              rintro e w4 ⟨rfl, rfl⟩
              go_wp2_with fail
              refine (newState_any start ho n cc _ _).mono ?_
              rintro e w5 ⟨rfl, s8, s9, s10, sf, hb5, hsz5⟩
              have hC5 := hC3.below hb5
              have hr15 : BR w5 ho w.heap.size n bs := hr13.block fun h0 => hb5.block _ (hr13.lt h0)
              have hr25 : BR w5 oo O n bs := hr23.block fun h0 => hb5.block _ (hr23.lt h0)
              have hF5 := HR.out.of_block (hb5.block F hFl)
              have Hb5 : Hid (Below w.heap.size w w5) := below_trans Hb3.out hb5
              have hwS : w.heap.size ≤ wr.heap.size := Hb3.out.size
              clear hC3 hr13 hr23 HR Hb3 hb5
              generalize wr.heap.size = SA at *
              go_wp2_with fail
              refine (clone_any oo n oc (by omega) hnil2 bs _ hr25.brow).mono ?_
              rintro e w6 ⟨ko, kc, rfl, -, hr6, hb6⟩
              have s8' := (hb6.cell (World.block_lt_of_cell? w5 _ s8)).trans s8
              have s9' := (hb6.cell (World.block_lt_of_cell? w5 _ s9)).trans s9
              have s10' := (hb6.cell (World.block_lt_of_cell? w5 _ s10)).trans s10
              have sf' := (hb6.frozen (World.block_lt_of_cell? w5 _ s10)).trans sf
              have hC6 := hC5.below hb6
              have hr16 : BR w6 ho w.heap.size n bs := hr15.block fun h0 => hb6.block _ (hr15.lt h0)
              have hr26 : BR w6 oo O n bs := hr25.block fun h0 => hb6.block _ (hr25.lt h0)
              have hF6 := hF5.of_block (hb6.block F hF5.lt)
              have Hb6 : Hid (Below w.heap.size w w6) := below_trans Hb5.out hb6
              have hlt6 : n ≠ 0 → w5.heap.size < w6.heap.size := hr6.lt
              have hle6 := hb6.size
              clear s8 s9 s10 sf hC5 hr15 hr25 hF5 Hb5 hb6 hnil2
              generalize w5.heap.size = K at *
              go_wp2_with fail
              refine (newState_any start ko n kc _ _).mono ?_
              rintro e w7 ⟨rfl, t8, t9, t10, tf, hb7, hsz7⟩
              have s8 := (hb7.cell (World.block_lt_of_cell? w6 _ s8')).trans s8'
              have s9 := (hb7.cell (World.block_lt_of_cell? w6 _ s9')).trans s9'
              have s10 := (hb7.cell (World.block_lt_of_cell? w6 _ s10')).trans s10'
              have sf := (hb7.frozen (World.block_lt_of_cell? w6 _ s10')).trans sf'
              have hC7 := hC6.below hb7
              have hr17 : BR w7 ho w.heap.size n bs := hr16.block fun h0 => hb7.block _ (hr16.lt h0)
              have hr27 : BR w7 oo O n bs := hr26.block fun h0 => hb7.block _ (hr26.lt h0)
              have hr67 : BR w7 ko K n bs := hr6.block fun h0 => hb7.block _ (hr6.lt h0)
              have hF7 := hF6.of_block (hb7.block F hF6.lt)
              have Hb7 : Hid (Below w.heap.size w w7) := below_trans Hb6.out hb7
              clear s8' s9' s10' sf' hC6 hr16 hr26 hr6 hF6 Hb6 hb7
              generalize w6.heap.size = SB at *
              obtain ⟨H2, K2, hrA, hrB, hcase⟩ : ∃ H2 K2, BR w7 ho H2 n bs ∧ BR w7 ko K2 n bs ∧ ((n = 0 ∧ H2 = SA ∧ K2 = SB) ∨ (n ≠ 0 ∧ w.heap.size ≤ H2 ∧ H2 < O ∧ O < F ∧ K2 = K ∧ K < SB)) := by
                by_cases h0 : n = 0
                · exact ⟨SA, SB, .inl h0, .inl h0, .inl ⟨h0, rfl, rfl⟩⟩
                · exact ⟨_, _, hr17, hr67, .inr ⟨h0, Nat.le_refl _, by have := hlt1 h0; omega, by have := hlt2 h0; omega, rfl, hlt6 h0⟩⟩
              have hdist : (F ≠ SA ∧ F ≠ H2 ∧ F ≠ SB ∧ F ≠ K2) ∧ (n ≠ 0 → O ≠ SA ∧ O ≠ H2 ∧ O ≠ SB ∧ O ≠ K2) ∧ (SB ≠ SA ∧ SB ≠ H2) ∧ (n ≠ 0 → K2 ≠ SA ∧ K2 ≠ H2) ∧ (SA ≠ SB ∧ SA ≠ K2) ∧ (n ≠ 0 → H2 ≠ SB ∧ H2 ≠ K2) ∧ (n ≠ 0 → SA ≠ H2) ∧ (n ≠ 0 → SB ≠ K2) ∧
                  (w.heap.size ≤ SA ∧ w.heap.size ≤ H2 ∧ w.heap.size ≤ SB ∧ w.heap.size ≤ K2) := by
                rcases hcase with ⟨h0, h1, h2⟩ | ⟨h0, h1, h2, h3, h4, h5⟩ <;> refine ⟨⟨?_, ?_, ?_, ?_⟩, fun _ => ⟨?_, ?_, ?_, ?_⟩, ⟨?_, ?_⟩, fun _ => ⟨?_, ?_⟩, ⟨?_, ?_⟩, fun _ => ⟨?_, ?_⟩, fun _ => ?_, fun _ => ?_, ⟨?_, ?_, ?_, ?_⟩⟩ <;> omega
              have HD : Hid _ := hdist
              have HBne : Hid (∀ x, bo = some x → 0 < m → (x.block ≠ SA ∧ x.block ≠ H2) ∧ (x.block ≠ SB ∧ x.block ≠ K2)) := fun x hx hm => by
                have h1 := HBo.out x hx hm
                have h2 := hdist.2.2.2.2.2.2.2.2
                omega
              have hstA : St w7 SA ho H2 n cc start (heardAt bs start ep J 0) (cf (heardAt bs start ep J 0) n : Int) :=
                St.congr ⟨s8, s9, s10, sf, hrA, hdist.2.2.2.2.2.2.1⟩ (fun i _ => (heardAt_zero bs start ep J i).symm) (by rw [cf_congr fun i _ => heardAt_zero bs start ep J i])
              have hstB : St w7 SB ko K2 n kc start (heardFrom bs start ep J m m) (cf (heardFrom bs start ep J m m) n : Int) :=
                St.congr ⟨t8, t9, t10, tf, hrB, hdist.2.2.2.2.2.2.2.1⟩ (fun i _ => (heardFrom_end bs start ep J m i).symm) (by rw [cf_congr fun i _ => heardFrom_end bs start ep J m i])
              have HStB : Hid (St w7 SB ko K2 n kc start (heardFrom bs start ep J m m) (cf (heardFrom bs start ep J m m) n : Int)) := hstB
              clear s8 s9 s10 sf t8 t9 t10 tf hrA hrB hcase hdist hlt1 hlt2 HBo hr17 hr67 hstB hlt6
              have hcb := cf_le bs n
              go_wp2_with fail
              go_loopw [16, 17] (fun t i wx => ∃ k T : Nat, k ≤ m ∧ i = .int .i64 k ∧ t = .int .i64 T ∧ St wx SA ho H2 n cc start (heardAt bs start ep J k) (cf (heardAt bs start ep J k) n : Int) ∧ T + cf (heardAt bs start ep J k) n = cf bs n ∧ Only2 SA H2 w7 wx) (fun _ i _ => m - (intOf i).toNat)
              case atStart => exact ⟨0, 0, Nat.zero_le _, rfl, rfl, hstA, by rw [Nat.zero_add, cf_congr fun i _ => heardAt_zero bs start ep J i], Only2.refl _ _ _⟩
              case round =>
                clear hstA
                obtain ⟨k, T, hk3, rfl, rfl, hst, hT, hon⟩ := hrel
                have HS : Hid (St wr SA ho H2 n cc start (heardAt bs start ep J k) (cf (heardAt bs start ep J k) n : Int)) := hst
                have HT : Hid (T + cf (heardAt bs start ep J k) n = cf bs n) := hT
                have HO : Hid (Only2 SA H2 w7 wr) := hon
                have hTn : T ≤ n := by omega
                clear hst hT hon
                by_cases hkl : k < m
                · obtain ⟨b, off, rfl, hbw, c0, c1⟩ := hC7.only HO.out (fun x hx => (HBne.out x hx (by omega)).1) k hkl
                  have HX : Hid (∀ wx, Only2 SA H2 w7 wx → wx.cell? ⟨b, off + k * 2, none⟩ = some (.int .u64 (ep k)) ∧ wx.cell? ⟨b, off + k * 2 + 1, none⟩ = some (.int .i64 (J k))) := fun wx h =>
                    (hC7.only h (fun x hx => (HBne.out x hx (by omega)).1)).at hkl
                  have HIn : Hid (ep k = start → 0 ≤ J k ∧ J k < n) := HI.out k hkl
                  have HCs : Hid (cf (stepHd start (heardAt bs start ep J k) (ep k) (J k)) n = cf (heardAt bs start ep J (k + 1)) n) := cf_congr fun i _ => heardAt_step bs start ep J k i
                  have HCf : Hid (cf (stepHd start (heardAt bs start ep J k) (ep k) (J k)) n + (if gotB start (heardAt bs start ep J k) (ep k) (J k) then 1 else 0) = cf (heardAt bs start ep J k) n) := cf_step HIn.out
                  clear hC7 hr27 hF7
                  cases hg : gotB start (heardAt bs start ep J k) (ep k) (J k)
                  all_goals
                    have HG : Hid (gotB start (heardAt bs start ep J k) (ep k) (J k) = _) := hg
                    clear hg
                    go_wp2_with fail
                    go_region_held3 (fun w' => w'.cell? ⟨b, off + k * 2, none⟩ = some (.int .u64 (ep k)) ∧ w'.cell? ⟨b, off + k * 2 + 1, none⟩ = some (.int .i64 (J k))) (first | exact ⟨c0, c1⟩ | exact HX.out _ (HO.out.drew.trans hon2)) (first | (go_at_call 9; refine (heard_any SA ho H2 n cc (by omega) start _ _ _ HIn.out _ HG.out _ HS.out.drew).mono ?_; rintro r w' ⟨rfl, hst2, hon2⟩))
                    have HO2 : Hid (Only2 SA H2 w7 w') := HO.out.drew.trans hon2
                    have HS2 : Hid (St w' SA ho H2 n cc start (stepHd start (heardAt bs start ep J k) (ep k) (J k)) (cf (stepHd start (heardAt bs start ep J k) (ep k) (J k)) n : Int)) := hst2
                    clear hst2 hon2
                    go_wp2_with fail
                    go_roundw
                    case rel =>
                      have h1 := HCf.out
                      rw [HG.out] at h1
                      simp only [Bool.false_eq_true, if_false, if_true] at h1
                      have h2 := HT.out
                      have h3 := HCs.out
                      first
                        | exact ⟨k + 1, T, by omega, by go_num, rfl, HS2.out.congr (fun i _ => heardAt_step bs start ep J k i) (by rw [h3]), by omega, HO2.out⟩
                        | exact ⟨k + 1, T + 1, by omega, by go_num, by go_num, HS2.out.congr (fun i _ => heardAt_step bs start ep J k i) (by rw [h3]), by omega, HO2.out⟩
                    case measure => simp [intOf]; omega
                · have hkm : m = k := by omega
                  subst hkm
                  have HTA : Hid (T + cf (heardAt bs start ep J m) n = cf bs n) := HT.out
                  have HSA : Hid (St wr SA ho H2 n cc start (heardAt bs start ep J m) (cf (heardAt bs start ep J m) n : Int)) := HS.out
                  have HSB : Hid (St wr SB ko K2 n kc start (heardFrom bs start ep J m m) (cf (heardFrom bs start ep J m m) n : Int)) := HStB.out.only HO.out HD.out.2.2.1.1 HD.out.2.2.1.2 HD.out.2.2.2.1
                  have hC8 : CRow wr bo m ep J := by
                    by_cases hm : 0 < m
                    · exact hC7.only HO.out (fun x hx => (HBne.out x hx hm).1)
                    · exact fun i hi => by omega
                  have hr28 : BR wr oo O n bs := hr27.block fun h0 => HO.out.block O (hr27.lt h0) (HD.out.2.1 h0).1 (HD.out.2.1 h0).2.1
                  have hF8 := hF7.of_block (HO.out.block F hF7.lt HD.out.1.1 HD.out.1.2.1)
                  have Hb8 : Hid (Below w.heap.size w wr) := Only2.below Hb7.out HO.out Hb7.out.size HD.out.2.2.2.2.2.2.2.2.1 HD.out.2.2.2.2.2.2.2.2.2.1
                  clear HS HT HO hC7 hr27 hF7 Hb7 HStB
                  generalize wr = w8 at *
                  go_wp2_with fail
                  go_loopw [18, 19] (fun t i wx => ∃ k T2 : Nat, k ≤ m ∧ i = .int .i64 ((k : Int) - 1) ∧ t = .int .i64 T2 ∧ St wx SB ko K2 n kc start (heardFrom bs start ep J m k) (cf (heardFrom bs start ep J m k) n : Int) ∧ T2 + cf (heardFrom bs start ep J m k) n = cf bs n ∧ Only2 SB K2 w8 wx) (fun _ i _ => (intOf i + 1).toNat)
                  case atStart => exact ⟨m, 0, Nat.le_refl _, rfl, rfl, HSB.out, by rw [Nat.zero_add, cf_congr fun i _ => heardFrom_end bs start ep J m i], Only2.refl _ _ _⟩
                  case round =>
                    clear HSB
                    obtain ⟨k, T2, hk5, rfl, rfl, hst, hT, hon⟩ := hrel
                    have HS : Hid (St wr SB ko K2 n kc start (heardFrom bs start ep J m k) (cf (heardFrom bs start ep J m k) n : Int)) := hst
                    have HT : Hid (T2 + cf (heardFrom bs start ep J m k) n = cf bs n) := hT
                    have HO : Hid (Only2 SB K2 w8 wr) := hon
                    have hT2n : T2 ≤ n := by omega
                    clear hst hT hon
                    by_cases hk0 : 0 < k
                    · obtain ⟨i, rfl⟩ : ∃ i, k = i + 1 := ⟨k - 1, by omega⟩
                      have hil : i < m := by omega
                      obtain ⟨b, off, rfl, hbw, c0, c1⟩ := hC8.only HO.out (fun x hx => (HBne.out x hx (by omega)).2) i hil
                      have HX : Hid (∀ wx, Only2 SB K2 w8 wx → wx.cell? ⟨b, off + i * 2, none⟩ = some (.int .u64 (ep i)) ∧ wx.cell? ⟨b, off + i * 2 + 1, none⟩ = some (.int .i64 (J i))) := fun wx h =>
                        (hC8.only h (fun x hx => (HBne.out x hx (by omega)).2)).at hil
                      have HIn : Hid (ep i = start → 0 ≤ J i ∧ J i < n) := HI.out i hil
                      have HCs : Hid (cf (stepHd start (heardFrom bs start ep J m (i + 1)) (ep i) (J i)) n = cf (heardFrom bs start ep J m i) n) := cf_congr fun v _ => heardFrom_step bs start ep J m i v hil
                      have HCf : Hid (cf (stepHd start (heardFrom bs start ep J m (i + 1)) (ep i) (J i)) n + (if gotB start (heardFrom bs start ep J m (i + 1)) (ep i) (J i) then 1 else 0) = cf (heardFrom bs start ep J m (i + 1)) n) := cf_step HIn.out
                      clear hC8 hr28 hF8
                      rw [show (((i + 1 : Nat) : Int) - 1) = (i : Int) from by omega]
                      have j1 : (i : Int) < (m : Int) := by omega
                      have j0 : (0 : Int) ≤ (i : Int) := by omega
                      cases hg : gotB start (heardFrom bs start ep J m (i + 1)) (ep i) (J i)
                      all_goals
                        have HG : Hid (gotB start (heardFrom bs start ep J m (i + 1)) (ep i) (J i) = _) := hg
                        clear hg
                        go_wp2_with fail
                        go_region_held3 (fun w' => w'.cell? ⟨b, off + i * 2, none⟩ = some (.int .u64 (ep i)) ∧ w'.cell? ⟨b, off + i * 2 + 1, none⟩ = some (.int .i64 (J i))) (first | exact ⟨c0, c1⟩ | exact HX.out _ (HO.out.drew.trans hon2)) (first | (go_at_call 9; refine (heard_any SB ko K2 n kc (by omega) start _ _ _ HIn.out _ HG.out _ HS.out.drew).mono ?_; rintro r w' ⟨rfl, hst2, hon2⟩))
                        have HO2 : Hid (Only2 SB K2 w8 w') := HO.out.drew.trans hon2
                        have HS2 : Hid (St w' SB ko K2 n kc start (stepHd start (heardFrom bs start ep J m (i + 1)) (ep i) (J i)) (cf (stepHd start (heardFrom bs start ep J m (i + 1)) (ep i) (J i)) n : Int)) := hst2
                        clear hst2 hon2
                        go_wp2_with fail
                        go_roundw
                        case rel =>
                          have h1 := HCf.out
                          rw [HG.out] at h1
                          simp only [Bool.false_eq_true, if_false, if_true] at h1
                          have h2 := HT.out
                          have h3 := HCs.out
                          first
                            | exact ⟨i, T2, by omega, by go_num, rfl, HS2.out.congr (fun v _ => heardFrom_step bs start ep J m i v hil) (by rw [h3]), by omega, HO2.out⟩
                            | exact ⟨i, T2 + 1, by omega, by go_num, by go_num, HS2.out.congr (fun v _ => heardFrom_step bs start ep J m i v hil) (by rw [h3]), by omega, HO2.out⟩
                        case measure => simp [intOf]
                    · have hk00 : 0 = k := by omega
                      subst hk00
                      have hc0 : cf (heardFrom bs start ep J m 0) n = cf (heardAt bs start ep J m) n := cf_congr fun v _ => heardFrom_zero bs start ep J m v
                      have hTA := HTA.out
                      have hTB := HT.out
                      have hNN := HNn.out
                      have eA : T = N := by omega
                      have eB : T2 = N := by omega
                      subst eA eB
                      have hSA := HSA.out.only HO.out HD.out.2.2.2.2.1.1 HD.out.2.2.2.2.1.2 HD.out.2.2.2.2.2.1
                      have hSB : St wr SB ko K2 n kc start (heardAt bs start ep J m) (cf (heardAt bs start ep J m) n : Int) := HS.out.congr (fun v _ => heardFrom_zero bs start ep J m v) (by rw [hc0])
                      have hr29 : BR wr oo O n bs := hr28.block fun h0 => HO.out.block O (hr28.lt h0) (HD.out.2.1 h0).2.2.1 (HD.out.2.1 h0).2.2.2
                      have hF9 := hF8.of_block (HO.out.block F hF8.lt HD.out.1.2.2.1 HD.out.1.2.2.2)
                      have Hb9 : Hid (Below w.heap.size w wr) := Only2.below Hb8.out HO.out Hb8.out.size HD.out.2.2.2.2.2.2.2.2.2.2.1 HD.out.2.2.2.2.2.2.2.2.2.2.2
                      have a9 := hSA.c9
                      have b9 := hSB.c9
                      clear hC8 hr28 hF8 Hb8 hc0 hTB hTA HS HT HSA HTA HO
                      go_wp2_with fail
                      refine (ZZheard_any SA _ _ a9).mono ?_
                      rintro r w' ⟨rfl, rfl⟩
                      go_wp2_with fail
                      refine (ZZheard_any SB _ _ b9).mono ?_
                      rintro r w' ⟨rfl, rfl⟩
                      go_wp2_with fail
                      go_loop [22, 23] (fun i _ => ∃ v : Nat, v ≤ n ∧ i = .int .i64 v) (fun i _ => n - (intOf i).toNat)
                      case atStart => exact ⟨0, Nat.zero_le _, rfl⟩
                      case round =>
                        obtain ⟨v, hv, rfl⟩ := hrel
                        by_cases hvl : v < n
                        · have x4 := hF9.cell hvl
                          obtain ⟨ob, ooff, rfl, _, x3⟩ := hr29.brow v hvl
                          obtain ⟨ab, aoff, rfl, _, x5⟩ := hSA.row.brow v hvl
                          obtain ⟨bb, boff, rfl, _, x6⟩ := hSB.row.brow v hvl
                          have hhd : heardAt bs start ep J m v = (bs v || any0 (names start ep J v) m) := rfl
                          rw [hhd] at x5 x6
                          clear hF9 hr29 hSA hSB a9 b9 hhd
                          generalize bs v = p1 at *
                          generalize any0 (names start ep J v) m = p2 at *
                          cases p1 <;> cases p2
                          all_goals
                            simp only [Bool.true_or, Bool.false_or] at x5 x6
                            go_wp2_with fail
                            go_round
                            case rel => exact ⟨v + 1, by omega, by go_num⟩
                            case measure => simp [intOf]; omega
                        · have a10 := hSA.c10
                          have b10 := hSB.c10
                          have hq : ((cf (heardAt bs start ep J m) n : Int) == (cf bs n : Int) - (T2 : Int)) = true := by rw [beq_iff_eq]; omega
                          clear hF9 hr29 hSA hSB a9 b9
                          go_wp2_with fail
                          refine (ZZunheard_any SA _ _ a10).mono ?_
                          rintro r w' ⟨rfl, rfl⟩
                          go_wp2_with fail
                          refine (ZZunheard_any SB _ _ b10).mono ?_
                          rintro r w' ⟨rfl, rfl⟩
                          go_wp2_with fail
                          go_ret
                          exact ⟨rfl, Hb9.out⟩
end Go.Proofs.Qxb6628016a
