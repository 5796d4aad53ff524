import Derived.Test.Qxb6627957aClone
import Derived.Test.Qxb6627957aPast
import Derived.Deep.AppendLies
import Derived.Deep.QuietTactic
import Derived.BigQuiet
namespace Go.Proofs.Qxb6627957a
open Go.RowKit

theorem Try.info3 : (Try.prog.info? 3).map (fun i => (i.zero, i.size, i.bytes)) = some (some (.int .i64 0), 1, 8) := by kernel_rfl

/-! ### the two lists of the model, behind names -/
def S1 (rs : List (Nat × Nat)) : List Value := rs.map fun x => .int .i64 (x.1 : Int)
def S2 (rs : List (Nat × Nat)) : List Value := rs.map fun x => .int .i64 (x.2 : Int)
theorem S1_snoc (rs : List (Nat × Nat)) (x : Nat × Nat) : S1 (rs ++ [x]) = S1 rs ++ [.int .i64 (x.1 : Int)] := by simp [S1]
theorem S2_snoc (rs : List (Nat × Nat)) (x : Nat × Nat) : S2 (rs ++ [x]) = S2 rs ++ [.int .i64 (x.2 : Int)] := by simp [S2]
theorem one_int (z : Int) : ∀ u ∈ [Value.int .i64 z], u.oneCell' = true := by
  intro u hu
  simp at hu
  subst hu
  rfl

/-- Two rows of ints, of the same length, in blocks of their own: the runs' starts and lengths. -/
structure Two (w : World) (base gs cs gl cl : Nat) (rs : List (Nat × Nat)) : Prop where
  ne : gs ≠ gl
  r1 : w.ownsRow base 3 1 (.slice (some ⟨gs, 0, none⟩) rs.length cs) rs.length (S1 rs)
  r2 : w.ownsRow base 3 1 (.slice (some ⟨gl, 0, none⟩) rs.length cl) rs.length (S2 rs)

theorem Two.lt {w : World} {base gs cs gl cl : Nat} {rs : List (Nat × Nat)} (h : Two w base gs cs gl cl rs) : base ≤ gs ∧ gs < w.heap.size ∧ base ≤ gl ∧ gl < w.heap.size := by
  have h1 := h.r1.lt gs rfl
  have h2 := h.r2.lt gl rfl
  exact ⟨h1.1, h1.2, h2.1, h2.2⟩
theorem Two.set {w : World} {base gs cs gl cl : Nat} {rs : List (Nat × Nat)} (h : Two w base gs cs gl cl rs) {M : Nat} (hM : M < base) (i : Nat) (v : Value) : Two (w.setCell ⟨M, i, none⟩ v) base gs cs gl cl rs :=
  ⟨h.ne, ownsRow_setCell_below h.r1 (by exact hM) v, ownsRow_setCell_below h.r2 (by exact hM) v⟩
theorem Two.drewN {w : World} {base gs cs gl cl : Nat} {rs : List (Nat × Nat)} (h : Two w base gs cs gl cl rs) (n : Nat) : Two (w.drewN n) base gs cs gl cl rs := ⟨h.ne, h.r1, h.r2⟩
def st (rs : List (Nat × Nat)) (i : Nat) : Nat := (rs.getD i (0, 0)).1
def ln (rs : List (Nat × Nat)) (i : Nat) : Nat := (rs.getD i (0, 0)).2
theorem Two.start {w : World} {base gs cs gl cl : Nat} {rs : List (Nat × Nat)} (h : Two w base gs cs gl cl rs) {i : Nat} (hi : i < rs.length) : w.cell? ⟨gs, i, none⟩ = some (.int .i64 (st rs i : Int)) := by
  rw [h.r1.cellAt i (by omega)]
  simp [S1, st, hi]
theorem Two.length {w : World} {base gs cs gl cl : Nat} {rs : List (Nat × Nat)} (h : Two w base gs cs gl cl rs) {i : Nat} (hi : i < rs.length) : w.cell? ⟨gl, i, none⟩ = some (.int .i64 (ln rs i : Int)) := by
  rw [h.r2.cellAt i (by omega)]
  simp [S2, ln, hi]
/-- one run more -/
theorem Two.snoc {w w1 w2 : World} {base gs cs gl cl gs' cs' gl' cl' : Nat} {rs : List (Nat × Nat)} {x : Nat × Nat} {o' : Obj} {z : Int} (h : Two w base gs cs gl cl rs)
    (a1 : w1.ownsRow base 3 1 (.slice (some ⟨gs', 0, none⟩) (rs.length + 1) cs') (rs.length + 1) (S1 rs ++ [.int .i64 (x.1 : Int)])) (e1 : gs = gs' ∨ gs' = w.heap.size + 1) (l1 : gs' < w1.heap.size)
    (a2 : w2.ownsRow base 3 1 (.slice (some ⟨gl', 0, none⟩) (rs.length + 1) cl') (rs.length + 1) (S2 rs ++ [.int .i64 z])) (g2 : (w1.alloc o').grownBy w2 (some gl)) (e2 : gl = gl' ∨ gl' = w1.heap.size + 1) (hz : z = (x.2 : Int)) :
    Two w2 base gs' cs' gl' cl' (rs ++ [x]) := by
  have hlt := h.lt
  refine ⟨?_, ?_, ?_⟩
  · rcases e1 with rfl | rfl <;> rcases e2 with rfl | rfl
    · exact h.ne
    · omega
    · omega
    · omega
  · rw [S1_snoc]
    have hk := (a1.alloc o').kept g2 (.inr (by
      simp only [Value.ownBlock]
      rcases e1 with rfl | rfl
      · intro e; exact h.ne (Option.some.inj e)
      · intro e; have := Option.some.inj e; omega))
    simpa using hk
  · rw [S2_snoc]
    subst hz
    simpa using a2

theorem start_facts (w : World) (n : Nat) {W : World} (h : ((w.alloc (.cells (madeCells #[.bool false] n) 4)).alloc (.cells #[] 3)).alloc (.cells #[] 3) = W) :
    Two W (w.heap.size + 1) (w.heap.size + 1) 0 (w.heap.size + 1 + 1) 0 [] ∧ W.rowIs w.heap.size 4 n (fun _ => .bool false) ∧ Below w.heap.size w W := by
  subst h
  refine ⟨⟨by omega, ?_, ?_⟩, ((World.rowIs_made w (.bool false) n 4).alloc _).alloc _, (((Below.refl _ _).alloc (Nat.le_refl _) _).alloc (by simp) _).alloc (by simp; omega) _⟩
  · have := (World.ownsRow_made (base := w.heap.size + 1) (e := 3) (size := 1) (w.alloc (.cells (madeCells #[.bool false] n) 4)) #[] 0 (by simp) (by unfold maxLen; omega) (by simp)).alloc (.cells #[] 3)
    have e : S1 [] = [] := rfl
    simpa [e] using this
  · have := World.ownsRow_made (base := w.heap.size + 1) (e := 3) (size := 1) ((w.alloc (.cells (madeCells #[.bool false] n) 4)).alloc (.cells #[] 3)) #[] 0 (by simp) (by unfold maxLen; omega) (by simp)
    have e : S2 [] = [] := rfl
    simpa [e] using this

theorem own_or {g g' n c H : Nat} (h : (Value.slice (some ⟨g, 0, none⟩) n c).ownBlock = some g' ∨ g' = H) : g = g' ∨ g' = H := by
  rcases h with h | h
  · exact .inl (Option.some.inj h)
  · exact .inr h

/-- the lengths' row behind an append to the starts' -/
theorem Two.keepLens {w w1 : World} {base gs cs gl cl : Nat} {rs : List (Nat × Nat)} {o : Obj} (h : Two w base gs cs gl cl rs) (g1 : (w.alloc o).grownBy w1 (some gs)) :
    w1.ownsRow base 3 1 (.slice (some ⟨gl, 0, none⟩) rs.length cl) rs.length (S2 rs) :=
  (h.r2.alloc o).kept g1 (.inr (fun e => h.ne (Option.some.inj e).symm))

theorem two_steps {w w1 w2 : World} {M gs gl : Nat} {o o' : Obj} (hM : M + 1 ≤ w.heap.size) (g1 : (w.alloc o).grownBy w1 (some gs)) (h1 : M + 1 ≤ gs) (g2 : (w1.alloc o').grownBy w2 (some gl)) (h2 : M + 1 ≤ gl) : Below (M + 1) w w2 := by
  have b1 : Below (M + 1) w w1 := ((Below.refl _ _).alloc hM _).grown g1 (by simp; omega) (fun k hk => by cases hk; exact h1)
  have hs := b1.size
  exact (b1.alloc (by omega) _).grown g2 (by simp; omega) (fun k hk => by cases hk; exact h2)

theorem drop_at (rs : List (Nat × Nat)) (i : Nat) (h : i < rs.length) : rs.drop i = (st rs i, ln rs i) :: rs.drop (i + 1) := by
  have e : (st rs i, ln rs i) = rs[i] := by simp [st, ln, h]
  rw [e]
  exact List.drop_eq_getElem_cons h
theorem mem_at (rs : List (Nat × Nat)) (i : Nat) (h : i < rs.length) : (st rs i, ln rs i) ∈ rs := by
  have : (st rs i, ln rs i) = rs[i] := by simp [st, ln, h]
  rw [this]
  exact List.getElem_mem h

/-- the mask grows by one place, whatever else -/
theorem mask_eq {a b c p : Nat} (h1 : b ≤ max a c) (h2 : c ≤ b) : (decide (a ≤ p) && decide (p < b)) = (decide (a ≤ p) && decide (p < c)) := by
  rw [Bool.eq_iff_iff]
  simp only [Bool.and_eq_true, decide_eq_true_eq]
  omega

set_option maxHeartbeats 4000000 in
theorem spanModel_any (s : ByteArray) (hs : s.size ≤ 65536) (w : World) :
    Calls Try.prog 7 #[.string s] w fun e w' => e = .returned (.slice (some ⟨w.heap.size, 0, none⟩) s.size s.size) ∧ w'.rowIs w.heap.size 4 s.size (fun p => .bool (cov (runs (tick s) s.size 0) p)) ∧ Below w.heap.size w w' := by
  obtain ⟨i3, hi3, hz30, hz31, hz32⟩ := info_parts Try.info3
  have hmk := run_make_row' (P := Try.prog) 22 4 (.bool false) 1 Try.underlying22 Try.info4b rfl .i64 .i64 s.size (by omega) (by omega)
  have hmk0 : ∀ w, (Instr.makeSlice 29 (.int .i64 0) (.int .i64 0)).run Try.prog w = .ok (.slice (some ⟨w.heap.size, 0, none⟩) 0 0) (w.alloc (.cells #[] 3)) := fun w => by
    have h := run_make_row' (P := Try.prog) 29 3 (.int .i64 0) 8 Try.underlying29 Try.info3 rfl .i64 .i64 0 (by omega) (by omega) w
    rw [show madeCells #[Value.int .i64 0] 0 = #[] by simp [madeCells]] at h
    exact h
  go_enter Try.func7, Try.ntmps7
  go_wp2_with fail
  generalize hW : ((w.alloc (.cells (madeCells #[.bool false] s.size) 4)).alloc (.cells #[] 3)).alloc (.cells #[] 3) = W
  obtain ⟨h2, hr, hb⟩ := start_facts w s.size hW
  clear hW hmk hmk0
  generalize hM : w.heap.size = M at *
  have HM : Hid (w.heap.size = M) := hM
  clear hM
  go_loopw [5, 6, 7] (fun v5 v6 v7 wr => ∃ (q gs cs gl cl : Nat) (rs : List (Nat × Nat)), q ≤ s.size ∧ rs.length ≤ q ∧ v5 = .slice (some ⟨gs, 0, none⟩) rs.length cs ∧ v6 = .slice (some ⟨gl, 0, none⟩) rs.length cl ∧ v7 = .int .i64 q ∧
      Two wr (M + 1) gs cs gl cl rs ∧ wr.rowIs M 4 s.size (fun _ => .bool false) ∧ Below M w wr ∧ runs (tick s) s.size 0 = rs ++ runs (tick s) s.size q) (fun _ _ v7 _ => s.size - (intOf v7).toNat)
  case atStart => exact ⟨0, _, _, _, _, [], Nat.zero_le _, Nat.le_refl _, rfl, rfl, rfl, h2, hr, hb, rfl⟩
  case round =>
    clear h2 hr hb
    obtain ⟨q, gs, cs, gl, cl, rs, hq, hrl, rfl, rfl, rfl, h2, hr, hb, hruns⟩ := hrel
    have hlt := h2.lt
    have H2 : Hid (Two wr (M + 1) gs cs gl cl rs) := h2
    have HR : Hid (wr.rowIs M 4 s.size (fun _ => .bool false)) := hr
    have HBl : Hid (Below M w wr) := hb
    have HRu : Hid (runs (tick s) s.size 0 = rs ++ runs (tick s) s.size q) := hruns
    clear h2 hr hb hruns
    by_cases hql : q < s.size
    · cases ht : tick s q with
      | false =>
        have hq1 : ((s[q].toNat : Int) == 96) = false := by rw [tick_at hql, ht]
        have HT : Hid (tick s q = false) := ht
        clear ht
        go_wp2_with fail
        go_roundw
        case rel => exact ⟨q + 1, gs, cs, gl, cl, rs, by omega, by omega, rfl, rfl, by go_num, H2.out, HR.out, HBl.out, by rw [← runs_no (tick s) s.size hql HT.out]; exact HRu.out⟩
        case measure => simp [intOf]; omega
      | true =>
        have hq1 : ((s[q].toNat : Int) == 96) = true := by rw [tick_at hql, ht]
        have HT : Hid (tick s q = true) := ht
        clear ht
        obtain ⟨o, HO⟩ : ∃ o, Hid (run (tick s) s.size q = o) := ⟨_, rfl⟩
        have ho1 : o ≤ s.size - q := by rw [← HO.out]; exact run_le (tick s) s.size q
        have ho2 : 1 ≤ o := by rw [← HO.out, run_yes (tick s) s.size hql HT.out]; omega
        have HRn : Hid (runs (tick s) s.size q = (q, o) :: runs (tick s) s.size (q + o)) := by have := runs_yes (tick s) s.size tick_past HT.out; rwa [HO.out] at this
        go_wp2_with fail
        go_loop [7] (fun v7 => ∃ k : Nat, q ≤ k ∧ k ≤ q + o ∧ v7 = .int .i64 k) (fun v7 => s.size - (intOf v7).toNat)
        case atStart => exact ⟨q, Nat.le_refl _, by omega, rfl⟩
        case round =>
          obtain ⟨k, hk1, hk2, rfl⟩ := hrel
          by_cases hkl : k < q + o
          · have hks : k < s.size := by omega
            have hq2 : ((s[k].toNat : Int) == 96) = true := by
              rw [tick_at hks]
              have := run_all (tick s) s.size (i := q) (j := k - q) (by rw [HO.out]; omega)
              rwa [show q + (k - q) = k by omega] at this
            go_wp2_with fail
            go_round
            case rel => exact ⟨k + 1, by omega, by omega, by go_num⟩
            case measure => simp [intOf]; omega
          · have hkk : k = q + o := by omega
            have HK : Hid (k = q + o) := hkk
            have HT2 : (∃ h : k < s.size, ((s[k].toNat : Int) == 96) = false) ∨ s.size ≤ k := by
              by_cases h : k < s.size
              · refine .inl ⟨h, ?_⟩
                rw [tick_at h]
                have := run_stop (tick s) s.size (i := q) (by rw [HO.out]; omega)
                rw [HO.out] at this
                rwa [← hkk] at this
              · exact .inr (by omega)
            clear hkk
            rcases HT2 with ⟨hks, hq2⟩ | hks
            all_goals
              go_wp2_with (first | (at_builtin; refine wpList_append_lies _ rfl (.tmp 38) (.tmp 40) 29 rfl (M + 1) 3 i3 (.int .i64 0) 1 8 Try.underlying29 hi3 hz30 hz31 hz32 rfl (by omega) (.slice (some ⟨gs, 0, none⟩) rs.length cs) rs.length (S1 rs) rfl (H2.out.r1.alloc _) ⟨wr.heap.size, 0, none⟩ 1 1 [.int .i64 q] rfl rfl (cell_one_new _ _ _) (one_int _) (by omega) (by unfold maxLen; omega) (by omega) (by simp; omega) (wr.heap.size + 1) (by simp) ?_; intro gs' cs' w1 own1 grow1 at1 lt1; have hsz1 : M + 1 ≤ w1.heap.size := (by have := grow1.size; simp at this; omega)) | (at_builtin; refine wpList_append_lies _ rfl (.tmp 42) (.tmp 46) 29 rfl (M + 1) 3 i3 (.int .i64 0) 1 8 Try.underlying29 hi3 hz30 hz31 hz32 rfl (by omega) (.slice (some ⟨gl, 0, none⟩) rs.length cl) rs.length (S2 rs) rfl ((H2.out.keepLens grow1).alloc _) ⟨w1.heap.size, 0, none⟩ 1 1 [.int .i64 ((k : Int) - (q : Int))] rfl rfl (cell_one_new _ _ _) (one_int _) (by omega) (by unfold maxLen; omega) (by omega) (by simp; omega) (w1.heap.size + 1) (by simp) ?_; intro gl' cl' w2 own2 grow2 at2 lt2))
              go_roundw
              case rel =>
                have hT := H2.out.snoc (x := (q, o)) own1 (own_or at1) lt1 own2 grow2 (own_or at2) (by have := HK.out; show (k : Int) - (q : Int) = (o : Int); omega)
                refine ⟨k, gs', cs', gl', cl', rs ++ [(q, o)], by have := HK.out; omega, by have := HK.out; simp; omega, by simp, by simp, rfl, hT, ?_, ?_, ?_⟩
                · exact HR.out.of_block ((two_steps (by omega) grow1 hlt.1 grow2 hlt.2.2.1).block M (by omega))
                · exact HBl.out.trans ((two_steps (by omega) grow1 hlt.1 grow2 hlt.2.2.1).mono (by omega))
                · rw [HRu.out, HRn.out, HK.out]; simp
              case measure => have := HK.out; simp [intOf]; omega
    · have hqs : q = s.size := by omega
      have HRS : Hid (runs (tick s) s.size 0 = rs) := by
        show _ = _
        rw [HRu.out, runs_end (tick s) s.size (by omega), List.append_nil]
      have hrl2 : rs.length ≤ 65536 := by omega
      have HMem : Hid (∀ x ∈ rs, x.1 + x.2 ≤ s.size) := by
        show ∀ x ∈ rs, x.1 + x.2 ≤ s.size
        rw [← HRS.out]
        exact runs_in (tick s) s.size tick_past _ 0 rfl
      clear hqs HRu
      go_wp2_with fail
      go_loopw [9] (fun v9 wx => ∃ (r : Nat) (mk : Nat → Bool), r ≤ rs.length ∧ v9 = .int .i64 r ∧ wx.rowIs M 4 s.size (fun p => .bool (mk p)) ∧ (∀ p, (mk p || cov (rs.drop r) p) = cov rs p) ∧ Two wx (M + 1) gs cs gl cl rs ∧ Below M w wx) (fun v9 _ => rs.length - (intOf v9).toNat)
      case atStart => exact ⟨0, fun _ => false, Nat.zero_le _, rfl, HR.out, fun p => by simp, H2.out, HBl.out⟩
      case round =>
        clear HR H2 HBl
        obtain ⟨r, mk, hr, rfl, hrow, hcov, h2, hbel⟩ := hrel
        have H2 : Hid (Two wr (M + 1) gs cs gl cl rs) := h2
        have HR : Hid (wr.rowIs M 4 s.size (fun p => .bool (mk p))) := hrow
        have HBl : Hid (Below M w wr) := hbel
        have HC : Hid (∀ p, (mk p || cov (rs.drop r) p) = cov rs p) := hcov
        clear h2 hrow hbel hcov
        by_cases hrl3 : r < rs.length
        · have HD : Hid (rs.drop r = (st rs r, ln rs r) :: rs.drop (r + 1)) := drop_at rs r hrl3
          go_wp2_with fail
          go_loopw [10, 11] (fun c tv wx => ∃ tt : Nat, r + 1 ≤ tt ∧ tt ≤ rs.length ∧ c = .int .i64 (-1) ∧ tv = .int .i64 tt ∧ cut (ln rs r) (rs.drop tt) = cut (ln rs r) (rs.drop (r + 1)) ∧ wx.rowIs M 4 s.size (fun p => .bool (mk p)) ∧ Two wx (M + 1) gs cs gl cl rs ∧ Below M w wx) (fun _ tv _ => rs.length - (intOf tv).toNat)
          case atStart => exact ⟨r + 1, Nat.le_refl _, by omega, rfl, by go_num, rfl, HR.out, H2.out, HBl.out⟩
          case round =>
            clear HR H2 HBl
            obtain ⟨tt, ht1, ht2, rfl, rfl, hcut, hrow, h2, hbel⟩ := hrel
            have H2 : Hid (Two wr (M + 1) gs cs gl cl rs) := h2
            have HR : Hid (wr.rowIs M 4 s.size (fun p => .bool (mk p))) := hrow
            have HBl : Hid (Below M w wr) := hbel
            have HCut : Hid (cut (ln rs r) (rs.drop tt) = cut (ln rs r) (rs.drop (r + 1))) := hcut
            by_cases htl : tt < rs.length
            · have c0 := h2.length htl
              have c1 := h2.length hrl3
              have d0 := h2.start htl
              have d1 := h2.start hrl3
              have hm1 := HMem.out _ (mem_at rs tt htl)
              have hm2 := HMem.out _ (mem_at rs r hrl3)
              simp only at hm1 hm2
              have HDt : Hid (rs.drop tt = (st rs tt, ln rs tt) :: rs.drop (tt + 1)) := drop_at rs tt htl
              clear h2 hrow hbel hcut
              have j1 : (tt : Int) < (rs.length : Int) := by omega
              have j2 : (r : Int) < (rs.length : Int) := by omega
              by_cases heq : ln rs tt = ln rs r
              · have hbq : ((ln rs tt : Int) == (ln rs r : Int)) = true := by rw [heq]; simp
                have HEq : Hid (ln rs tt = ln rs r) := heq
                have HCs : Hid (cut (ln rs r) (rs.drop (r + 1)) = some (st rs tt, rs.drop (tt + 1))) := by show _ = _; rw [← HCut.out, HDt.out]; simp [cut, heq]
                clear heq
                generalize e1 : st rs tt = st1 at *
                generalize st rs r = st0 at *
                generalize e2 : ln rs tt = ln1 at *
                generalize ln rs r = ln0 at *
                have E1 : Hid (st rs tt = st1) := e1
                have E2 : Hid (ln rs tt = ln1) := e2
                clear e1 e2
                go_wp2_with fail
                go_quiet (fail)
                go_wp2_with fail
                have HR' : Hid ((wr.drewN nq).rowIs M 4 s.size (fun p => .bool (mk p))) := HR.out
                have H2' : Hid (Two (wr.drewN nq) (M + 1) gs cs gl cl rs) := H2.out.drewN _
                have HBl' : Hid (Below M w (wr.drewN nq)) := below_drewN HBl.out _
                have d0' : (wr.drewN nq).cell? ⟨gs, tt, none⟩ = some (.int .i64 (st1 : Int)) := d0
                have c0' : (wr.drewN nq).cell? ⟨gl, tt, none⟩ = some (.int .i64 (ln1 : Int)) := c0
                clear c0 c1 d0 d1 HR H2 HBl c0' d0'
                generalize wr.drewN nq = wd at *
                go_loopw [12] (fun pv wx => ∃ pp : Nat, st0 ≤ pp ∧ pp ≤ max st0 (st1 + ln1) ∧ pv = .int .i64 pp ∧ wx.rowIs M 4 s.size (fun p => .bool (mk p || (decide (st0 ≤ p) && decide (p < pp)))) ∧ Two wx (M + 1) gs cs gl cl rs ∧ Below M w wx) (fun pv _ => st1 + ln1 - (intOf pv).toNat)
                case atStart =>
                  refine ⟨st0, Nat.le_refl _, by omega, rfl, HR'.out.congr fun p _ => ?_, H2'.out, HBl'.out⟩
                  have : (decide (st0 ≤ p) && decide (p < st0)) = false := by simp
                  rw [this, Bool.or_false]
                case round =>
                  clear HR' H2' HBl'
                  obtain ⟨pp, hp1, hp2, rfl, hrow, h2, hbel⟩ := hrel
                  have H2 : Hid (Two wr (M + 1) gs cs gl cl rs) := h2
                  have HR : Hid (wr.rowIs M 4 s.size (fun p => .bool (mk p || (decide (st0 ≤ p) && decide (p < pp))))) := hrow
                  have HBl : Hid (Below M w wr) := hbel
                  have c0 := h2.length htl
                  have d0 := h2.start htl
                  rw [E1.out] at d0
                  rw [E2.out] at c0
                  have hw : IntKind.i64.wrap ((st1 : Int) + (ln1 : Int)) = (st1 : Int) + (ln1 : Int) := by rw [IntKind.wrap_i64]; omega
                  by_cases hpl : pp < st1 + ln1
                  · have f0 := hrow.cell (i := pp) (by omega)
                    have f1 := hrow.frozen pp
                    generalize (mk pp || (decide (st0 ≤ pp) && decide (pp < pp))) = b0 at f0
                    clear h2 hrow hbel
                    have j3 : (pp : Int) < (s.size : Int) := by omega
                    go_wp2_with fail
                    go_quiet (fail)
                    go_wp2_with fail
                    go_roundw
                    case rel => exact ⟨pp + 1, by omega, by omega, by go_num, mask_step (show (wr.drewN nq).rowIs M 4 s.size _ from HR.out) hp1, (H2.out.drewN _).set (by omega) _ _, (below_drewN HBl.out _).setCell (Nat.le_refl _) _⟩
                    case measure => simp [intOf]; omega
                  · clear h2 hrow hbel
                    go_wp2_with fail
                    go_quiet (fail)
                    go_wp2_with fail
                    go_roundw
                    case rel =>
                      refine ⟨tt + 1, fun p => mk p || (decide (st0 ≤ p) && decide (p < st1 + ln1)), by omega, by go_num, HR.out.congr fun p _ => ?_, fun p => ?_, H2.out.drewN _, below_drewN HBl.out _⟩
                      · show Value.bool (mk p || (decide (st0 ≤ p) && decide (p < pp))) = _
                        rw [mask_eq hp2 (by omega)]
                      · rw [← HC.out p, HD.out, cov_some (x := (st0, ln0)) HCs.out, Bool.or_assoc, HEq.out]
                    case measure => simp [intOf]; omega
              · have hbq : ((ln rs tt : Int) == (ln rs r : Int)) = false := by simp; omega
                have HNe : Hid (¬ ln rs tt = ln rs r) := heq
                clear heq
                go_wp2_with fail
                go_quiet (fail)
                go_wp2_with fail
                go_roundw
                case rel => exact ⟨tt + 1, by omega, by omega, rfl, by go_num, by rw [← HCut.out, HDt.out]; simp only [cut]; rw [if_neg HNe.out], HR.out, H2.out.drewN _, below_drewN HBl.out _⟩
                case measure => simp [intOf]; omega
            · have HCs : Hid (cut (ln rs r) (rs.drop (r + 1)) = none) := by show _ = _; rw [← HCut.out, List.drop_eq_nil_of_le (by omega)]; rfl
              clear h2 hrow hbel hcut
              go_wp2_with fail
              go_roundw
              case rel => exact ⟨r + 1, mk, by omega, by go_num, HR.out, fun p => by rw [← HC.out p, HD.out, cov_none (x := (st rs r, ln rs r)) HCs.out], H2.out, HBl.out⟩
              case measure => simp [intOf]; omega
        · have hrr : r = rs.length := by omega
          go_wp2_with fail
          go_ret
          refine ⟨by rw [HM.out]; rfl, ?_, by rw [HM.out]; exact HBl.out⟩
          rw [HM.out, HRS.out]
          refine HR.out.congr fun p _ => ?_
          rw [← HC.out p, List.drop_eq_nil_of_le (by omega), cov_nil, Bool.or_false]

end Go.Proofs.Qxb6627957a
