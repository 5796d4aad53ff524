import Derived.Test.Qxb6627957aProg
import Derived.Test.Qxb6627957aPlain
import Derived.WalkKit
import Derived.WalkLawsBesides
import Derived.WalkSpells
import Derived.Deep.OwnRows
namespace Go.Proofs.Qxb6627957a
open Go.RowKit

/-- Byte i of the line is a backtick. -/
def tick (s : ByteArray) (i : Nat) : Bool := if h : i < s.size then ((s[i].toNat : Int) == 96) else false
theorem tick_at {s : ByteArray} {i : Nat} (h : i < s.size) : ((s[i].toNat : Int) == 96) = tick s i := by simp [tick, h]
theorem tick_past {s : ByteArray} (i : Nat) (h : s.size ≤ i) : tick s i = false := by
  unfold tick
  rw [dif_neg (by omega)]

set_option maxHeartbeats 1000000 in
theorem backtickRun_any (s : ByteArray) (i : Nat) (hi : i ≤ s.size) (hs : s.size ≤ 1048576) (w : World) :
    Calls Try.prog 11 #[.string s, .int .i64 i] w fun e w' => e = .returned (.int .i64 (run (tick s) s.size i)) ∧ w' = w := by
  have hle := run_le (tick s) s.size i
  go_enter Try.func11, Try.ntmps11
  go_wp2
  go_loop [5] (fun c => ∃ k : Nat, k ≤ run (tick s) s.size i ∧ c = .int .i64 k) (fun c => s.size - (intOf c).toNat)
  case atStart => exact ⟨0, Nat.zero_le _, rfl⟩
  case round =>
    obtain ⟨k, hk, rfl⟩ := hrel
    by_cases hlt : i + k < s.size
    · by_cases hkr : k < run (tick s) s.size i
      · have hq : ((s[i + k].toNat : Int) == 96) = true := by rw [tick_at]; exact run_all (tick s) s.size hkr
        go_wp2
        go_round
        case rel => exact ⟨k + 1, by omega, by go_num⟩
        case measure => simp [intOf]; omega
      · have hkk : k = run (tick s) s.size i := by omega
        have hq : ((s[i + k].toNat : Int) == 96) = false := by
          rw [tick_at]
          have := run_stop (tick s) s.size (i := i) (by omega)
          rwa [← hkk] at this
        have HK : Hid (k = run (tick s) s.size i) := hkk
        clear hkk
        go_wp2
        go_ret
        exact ⟨by rw [← HK.out]; rfl, rfl⟩
    · have HK : Hid (k = run (tick s) s.size i) := by show k = _; omega
      go_wp2
      go_ret
      exact ⟨by rw [← HK.out]; rfl, rfl⟩

theorem backtickRun_eq (s : ByteArray) (i r : Nat) (hr : run (tick s) s.size i = r) (hi : i ≤ s.size) (hs : s.size ≤ 1048576) (w : World) :
    Calls Try.prog 11 #[.string s, .int .i64 i] w fun e w' => e = .returned (.int .i64 r) ∧ w = w' := by
  subst hr
  exact (backtickRun_any s i hi hs w).mono fun e w' ⟨h1, h2⟩ => ⟨h1, h2.symm⟩

theorem grown_trans {a b c : World} {r : Option Nat} (h : a.grownBy b r) (k : b.grownBy c r) : a.grownBy c r :=
  ⟨k.os.trans h.os, k.tape.trans h.tape, k.output.trans h.output, Nat.le_trans h.size k.size, fun i hi hr => (k.block i (Nat.lt_of_lt_of_le hi h.size) hr).trans (h.block i hi hr)⟩
theorem grown_set (w : World) (G i : Nat) (v : Value) : w.grownBy (w.setCell ⟨G, i, none⟩ v) (some G) :=
  ⟨rfl, rfl, rfl, by simp [World.setCell], fun k _ hk => Below.heap_setCell _ _ _ _ (fun e => hk (by rw [e]))⟩

/-- the mask grows by one place -/
theorem mask_step {w : World} {G m q k : Nat} {mk : Nat → Bool} (h : w.rowIs G 4 m (fun p => .bool (mk p || (decide (q ≤ p) && decide (p < k))))) (hq : q ≤ k) :
    (w.setCell ⟨G, k, none⟩ (.bool true)).rowIs G 4 m (fun p => .bool (mk p || (decide (q ≤ p) && decide (p < k + 1)))) := by
  refine (h.set k (.bool true)).congr fun p hp => ?_
  show (if p = k then Value.bool true else .bool (mk p || (decide (q ≤ p) && decide (p < k)))) = _
  by_cases e : p = k
  · subst e
    rw [if_pos rfl]
    simp [hq]
  · rw [if_neg e]
    have : decide (p < k) = decide (p < k + 1) := by
      rw [decide_eq_decide]
      omega
    rw [this]

set_option maxHeartbeats 2000000 in
theorem markSpans_any (s : ByteArray) (hs : s.size ≤ 1048576) (G m cap : Nat) (hm : s.size ≤ m) (mask : Nat → Bool) (w : World) (h : w.rowIs G 4 m (fun p => .bool (mask p))) :
    Calls Try.prog 10 #[.string s, .slice (some ⟨G, 0, none⟩) m cap] w fun e w' => e = .returned (.tuple #[]) ∧ w'.rowIs G 4 m (fun p => .bool (mask p || cov (runs (tick s) s.size 0) p)) ∧ w.grownBy w' (some G) := by
  go_enter Try.func10, Try.ntmps10
  go_wp2
  go_loopw [4] (fun i wr => ∃ (q : Nat) (mk : Nat → Bool), q ≤ s.size ∧ i = .int .i64 q ∧ wr.rowIs G 4 m (fun p => .bool (mk p)) ∧ (∀ p, (mk p || cov (runs (tick s) s.size q) p) = (mask p || cov (runs (tick s) s.size 0) p)) ∧ w.grownBy wr (some G)) (fun i _ => s.size - (intOf i).toNat)
  case atStart => exact ⟨0, mask, Nat.zero_le _, rfl, h, fun _ => rfl, World.grownBy.refl _ _⟩
  case round =>
    clear h
    obtain ⟨q, mk, hq, rfl, hrow, hcov, hgr⟩ := hrel
    have HC : Hid (∀ p, (mk p || cov (runs (tick s) s.size q) p) = (mask p || cov (runs (tick s) s.size 0) p)) := hcov
    have HR : Hid (wr.rowIs G 4 m (fun p => .bool (mk p))) := hrow
    have HG : Hid (w.grownBy wr (some G)) := hgr
    clear hcov hrow hgr
    by_cases hlt : q < s.size
    · cases ht : tick s q with
      | false =>
        have hq1 : ((s[q].toNat : Int) != 96) = true := by rw [bne, tick_at hlt, ht]; rfl
        have HT : Hid (tick s q = false) := ht
        clear ht
        go_wp2_with fail
        go_roundw
        case rel => exact ⟨q + 1, mk, by omega, by go_num, HR.out, fun p => by rw [← runs_no (tick s) s.size hlt HT.out]; exact HC.out p, HG.out⟩
        case measure => simp [intOf]; omega
      | true =>
        have hq1 : ((s[q].toNat : Int) != 96) = false := by rw [bne, tick_at hlt, ht]; rfl
        have HT : Hid (tick s q = true) := ht
        clear ht
        obtain ⟨o, HO⟩ : ∃ o, Hid (run (tick s) s.size q = o) := ⟨_, rfl⟩
        have hr1 : o ≤ s.size - q := by rw [← HO.out]; exact run_le (tick s) s.size q
        have hr2 : 1 ≤ o := by rw [← HO.out, run_yes (tick s) s.size hlt HT.out]; omega
        have HRn : Hid (runs (tick s) s.size q = (q, o) :: runs (tick s) s.size (q + o)) := by have := runs_yes (tick s) s.size tick_past HT.out; rwa [HO.out] at this
        go_wp2_with (go_at_call 11; refine (backtickRun_eq _ _ _ HO.out hq hs _).mono ?_; rintro e w' ⟨rfl, rfl⟩)
        go_loop [6, 7] (fun c j => ∃ jj : Nat, q + o ≤ jj ∧ jj ≤ s.size ∧ c = .int .i64 (-1) ∧ j = .int .i64 jj ∧ cut o (runs (tick s) s.size jj) = cut o (runs (tick s) s.size (q + o))) (fun _ j => s.size - (intOf j).toNat)
        case atStart => exact ⟨q + o, Nat.le_refl _, by omega, rfl, by go_num, rfl⟩
        case round =>
          obtain ⟨jj, hj1, hj2, rfl, rfl, hcut⟩ := hrel
          have HCut : Hid (cut o (runs (tick s) s.size jj) = cut o (runs (tick s) s.size (q + o))) := hcut
          clear hcut
          by_cases hjl : jj < s.size
          · cases ht : tick s jj with
            | false =>
              have hq2 : ((s[jj].toNat : Int) != 96) = true := by rw [bne, tick_at hjl, ht]; rfl
              have HT2 : Hid (tick s jj = false) := ht
              clear ht
              go_wp2_with fail
              go_round
              case rel => exact ⟨jj + 1, by omega, by omega, rfl, by go_num, by rw [← runs_no (tick s) s.size hjl HT2.out]; exact HCut.out⟩
              case measure => simp [intOf]; omega
            | true =>
              have hq2 : ((s[jj].toNat : Int) != 96) = false := by rw [bne, tick_at hjl, ht]; rfl
              have HT2 : Hid (tick s jj = true) := ht
              clear ht
              obtain ⟨o2, HO2⟩ : ∃ o2, Hid (run (tick s) s.size jj = o2) := ⟨_, rfl⟩
              have hr3 : o2 ≤ s.size - jj := by rw [← HO2.out]; exact run_le (tick s) s.size jj
              have hr4 : 1 ≤ o2 := by rw [← HO2.out, run_yes (tick s) s.size hjl HT2.out]; omega
              have HRj : Hid (runs (tick s) s.size jj = (jj, o2) :: runs (tick s) s.size (jj + o2)) := by have := runs_yes (tick s) s.size tick_past HT2.out; rwa [HO2.out] at this
              by_cases heq : o2 = o
              · subst heq
                have hbq : ((o2 : Int) == (o2 : Int)) = true := by simp
                have HCs : Hid (cut o2 (runs (tick s) s.size (q + o2)) = some (jj, runs (tick s) s.size (jj + o2))) := by show _ = _; rw [← HCut.out, HRj.out]; simp [cut]
                go_wp2_with (go_at_call 11; refine (backtickRun_eq _ _ _ HO2.out hj2 hs _).mono ?_; rintro e w2 ⟨rfl, rfl⟩)
                have HW : Hid (∀ x : World, wr = x → x.rowIs G 4 m (fun p => .bool (mk p)) ∧ w.grownBy x (some G)) := fun x e => by subst e; exact ⟨HR.out, HG.out⟩
                clear HR HG
                go_loopw [9] (fun k wx => ∃ kk : Nat, q ≤ kk ∧ kk ≤ jj + o2 ∧ k = .int .i64 kk ∧ wx.rowIs G 4 m (fun p => .bool (mk p || (decide (q ≤ p) && decide (p < kk)))) ∧ w.grownBy wx (some G)) (fun k _ => jj + o2 - (intOf k).toNat)
                case atStart =>
                  refine ⟨q, Nat.le_refl _, by omega, rfl, (HW.out _ rfl).1.congr fun p _ => ?_, (HW.out _ rfl).2⟩
                  have : (decide (q ≤ p) && decide (p < q)) = false := by simp
                  rw [this, Bool.or_false]
                case round =>
                  clear HW
                  obtain ⟨kk, hk1, hk2, rfl, hrow, hgr⟩ := hrel
                  have HR : Hid (wr.rowIs G 4 m (fun p => .bool (mk p || (decide (q ≤ p) && decide (p < kk))))) := hrow
                  have HG : Hid (w.grownBy wr (some G)) := hgr
                  by_cases hkl : kk < jj + o2
                  · have c0 := hrow.cell (i := kk) (by omega)
                    have c1 := hrow.frozen kk
                    generalize (mk kk || (decide (q ≤ kk) && decide (kk < kk))) = b0 at c0
                    have j1 : (kk : Int) < (m : Int) := by omega
                    clear hrow hgr
                    go_wp2_with fail
                    go_roundw
                    case rel => exact ⟨kk + 1, by omega, by omega, by go_num, mask_step HR.out hk1, grown_trans HG.out (grown_set _ _ _ _)⟩
                    case measure => simp [intOf]; omega
                  · have hkk : kk = jj + o2 := by omega
                    subst hkk
                    clear hrow hgr
                    go_wp2_with fail
                    go_roundw
                    case rel =>
                      refine ⟨jj + o2, fun p => mk p || (decide (q ≤ p) && decide (p < jj + o2)), by omega, by go_num, HR.out, fun p => ?_, HG.out⟩
                      rw [← HC.out p, HRn.out, cov_some HCs.out, Bool.or_assoc]
                    case measure => simp [intOf]; omega
              · have hbq : ((o2 : Int) == (o : Int)) = false := by simp; omega
                go_wp2_with (go_at_call 11; refine (backtickRun_eq _ _ _ HO2.out hj2 hs _).mono ?_; rintro e w2 ⟨rfl, rfl⟩)
                go_round
                case rel => exact ⟨jj + o2, by omega, by omega, rfl, by go_num, by rw [← HCut.out, HRj.out]; simp [cut, heq]⟩
                case measure => simp [intOf]; omega
          · have hjn : jj = s.size := by omega
            have HCs : Hid (cut o (runs (tick s) s.size (q + o)) = none) := by show _ = _; rw [← HCut.out, runs_end (tick s) s.size (by omega)]; rfl
            go_wp2_with fail
            go_roundw
            case rel => exact ⟨q + o, mk, by omega, by go_num, HR.out, fun p => by rw [← HC.out p, HRn.out, cov_none HCs.out], HG.out⟩
            case measure => simp [intOf]; omega
    · have hqn : q = s.size := by omega
      go_wp2_with fail
      go_end0
      refine ⟨rfl, HR.out.congr fun p _ => ?_, HG.out⟩
      rw [← HC.out p, runs_end (tick s) s.size (by omega), cov_nil, Bool.or_false]

theorem ZZmarkSpans_any (s : ByteArray) (hs : s.size ≤ 1048576) (G m cap : Nat) (hm : s.size ≤ m) (mask : Nat → Bool) (w : World) (h : w.rowIs G 4 m (fun p => .bool (mask p))) :
    Calls Try.prog 8 #[.string s, .slice (some ⟨G, 0, none⟩) m cap] w fun e w' => e = .returned (.tuple #[]) ∧ w'.rowIs G 4 m (fun p => .bool (mask p || cov (runs (tick s) s.size 0) p)) ∧ w.grownBy w' (some G) := by
  go_enter Try.func8, Try.ntmps8
  go_wp2_with fail
  refine (markSpans_any s hs G m cap hm mask _ h).mono ?_
  rintro e w' ⟨rfl, h1, h2⟩
  go_wp2
  go_end0
  exact ⟨rfl, h1, h2⟩

/-- An empty line: nothing happens, whatever the code. -/
theorem ZZmarkSpans_empty (s : ByteArray) (hs : s.size = 0) (v : Value) (w : World) :
    Calls Try.prog 8 #[.string s, v] w fun e w' => e = .returned (.tuple #[]) ∧ w' = w := by
  have hs' : (s.size : Int) ≤ 0 := by omega
  go_enter Try.func8, Try.ntmps8
  go_wp2_with (first | go_in)
  go_loop [4] (fun i => i = .int .i64 0) (fun _ => 0)
  case atStart => rfl
  case round =>
    subst hrel
    go_wp2
    go_end0
    go_wp2
    go_end0
    exact ⟨rfl, rfl⟩

end Go.Proofs.Qxb6627957a
