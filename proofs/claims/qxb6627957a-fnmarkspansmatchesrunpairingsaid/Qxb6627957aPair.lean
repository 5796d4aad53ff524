import Derived.Test.Qxb6627957aModel
namespace Go.Proofs.Qxb6627957a
open Go.RowKit

/-- It returns a Bool. -/
def RetBo (e : Ending) : Prop := ∃ r : Bool, e = .returned (.bool r)
theorem RetBo.mk {e : Ending} (r : Bool) (h : e = .returned (.bool r)) : RetBo e := ⟨r, h⟩

theorem zz5_any (s : ByteArray) (hs : s.size ≤ maxLen) (ao : Option Addr) (n c : Nat) (w : World) : Calls Try.prog 5 #[.string s, .slice ao n c] w fun e w' => RetBo e ∧ w = w' := by
  unfold maxLen at hs
  by_cases h : 1048576 < s.size
  · go_enter Try.func5, Try.ntmps5
    go_wp2
    go_ret
    exact ⟨.mk false rfl, rfl⟩
  by_cases h2 : 1048576 < n
  · go_enter Try.func5, Try.ntmps5
    go_wp2
    go_ret
    exact ⟨.mk false rfl, rfl⟩
  by_cases h3 : 1048576 < s.size + n
  · go_enter Try.func5, Try.ntmps5
    go_wp2
    go_ret
    exact ⟨.mk false rfl, rfl⟩
  · go_enter Try.func5, Try.ntmps5
    go_wp2
    go_ret
    exact ⟨.mk true rfl, rfl⟩

set_option maxHeartbeats 4000000 in
theorem pair_any (s : ByteArray) (hs0 : s.size ≤ maxLen) (ao : Option Addr) (n c : Nat) (hnil : ao = none → n = 0) (bs : Nat → Bool) (w : World) (h : BRow w ao n bs) :
    Calls Try.prog 3 #[.string s, .slice ao n c] w fun e w' => e = .returned (.bool true) ∧ Below w.heap.size w w' := by
  go_enter Try.func3, Try.ntmps3
  go_wp2_with fail
  refine (zz5_any s hs0 _ _ _ _).mono ?_
  rintro e w' ⟨⟨r, rfl⟩, rfl⟩
  unfold maxLen at hs0
  cases r
  · go_wp2
    go_ret
    exact ⟨rfl, Below.refl _ _⟩
  by_cases hbig : 65536 < s.size
  · go_wp2
    go_ret
    exact ⟨rfl, Below.refl _ _⟩
  by_cases hbig2 : 65536 < n
  · go_wp2
    go_ret
    exact ⟨rfl, Below.refl _ _⟩
  by_cases hsh : n < s.size
  · go_wp2
    go_ret
    exact ⟨rfl, Below.refl _ _⟩
  cases ao with
  | none =>
    have hn0 := hnil rfl
    subst hn0
    go_wp2_with fail
    refine (clone_nil _ _ _).mono ?_
    rintro e w' ⟨rfl, rfl⟩
    go_wp2_with fail
    refine (clone_nil _ _ _).mono ?_
    rintro e w' ⟨rfl, rfl⟩
    go_wp2_with fail
    refine (spanModel_any s (by omega) _).mono ?_
    rintro e w1 ⟨rfl, _, hb⟩
    have HB : Hid (Below w.heap.size w w1) := hb
    clear hb
    go_wp2_with fail
    refine (ZZmarkSpans_empty s (by omega) _ _).mono ?_
    rintro e w2 ⟨rfl, rfl⟩
    go_wp2_with fail
    go_loop [7] (fun i => i = .int .i64 0) (fun _ => 0)
    case atStart => rfl
    case round =>
      subst hrel
      go_wp2_with fail
      go_ret
      exact ⟨rfl, HB.out⟩
  | some a =>
    go_wp2_with fail
    refine (clone_any a n c (by omega) bs _ h).mono ?_
    rintro e w1 ⟨rfl, hr1, hb1⟩
    have hg1 := hr1.lt
    obtain ⟨g1, hgw, hge⟩ : ∃ g1, w.heap.size ≤ g1 ∧ w.heap.size = g1 := ⟨_, Nat.le_refl _, rfl⟩
    rw [hge] at hr1 hg1
    have HB1 : Hid (Below w.heap.size w w1) := hb1
    have HGe : Hid (w.heap.size = g1) := hge
    rw [hge]
    clear hb1 hge
    go_wp2_with fail
    refine (clone_any ⟨g1, 0, none⟩ n n (by omega) bs _ (brow_of hr1)).mono ?_
    rintro e w2 ⟨rfl, hr2, hb2⟩
    have hg2 := hr2.lt
    have hr12 := hr1.of_block (hb2.block g1 hg1)
    have HB2 : Hid (Below w.heap.size w w2) := below_trans HB1.out hb2
    generalize w1.heap.size = g2 at *
    clear hb2 hr1 HB1
    go_wp2_with fail
    refine (spanModel_any s (by omega) _).mono ?_
    rintro e w3 ⟨rfl, hr3, hb3⟩
    have hr13 := hr12.of_block (hb3.block g1 (by omega))
    have hr23 := hr2.of_block (hb3.block g2 hg2)
    have HB3 : Hid (Below w.heap.size w w3) := below_trans HB2.out hb3
    generalize w2.heap.size = g3 at *
    clear hb3 hr12 hr2 HB2
    go_wp2_with fail
    refine (ZZmarkSpans_any s (by omega) g1 n n (by omega) bs _ hr13).mono ?_
    rintro e w4 ⟨rfl, hr14, hgr⟩
    have hr24 := hr23.of_block (hgr.block g2 hr23.lt (fun e => by have := Option.some.inj e; omega))
    have hr34 := hr3.of_block (hgr.block g3 hr3.lt (fun e => by have := Option.some.inj e; omega))
    have HB4 : Hid (Below w.heap.size w w4) := HB3.out.grown hgr (HB3.out.size) (fun k hk => by cases hk; exact hgw)
    clear hgr hr13 hr23 hr3 HB3 h
    have HCE : Hid (∀ p, s.size ≤ p → cov (runs (tick s) s.size 0) p = false) := cov_end (tick s) s.size tick_past
    generalize cov (runs (tick s) s.size 0) = cv at *
    go_wp2_with fail
    go_loop [7, 8] (fun i _ => ∃ k : Nat, k ≤ n ∧ i = .int .i64 k) (fun i _ => n - (intOf i).toNat)
    case atStart => exact ⟨0, Nat.zero_le _, rfl⟩
    case round =>
      obtain ⟨k, hk, rfl⟩ := hrel
      by_cases hlt : k < n
      · have c1 := hr14.cell hlt
        have c2 := hr24.cell hlt
        by_cases hks : k < s.size
        · have c3 := hr34.cell hks
          clear hr14 hr24 hr34
          generalize bs k = b0 at *
          generalize cv k = b1 at *
          cases b0 <;> cases b1
          all_goals
            go_wp2_with fail
            go_round
            case rel => exact ⟨k + 1, by omega, by go_num⟩
            case measure => simp [intOf]; omega
        · have hz := HCE.out k (by omega)
          rw [hz] at c1
          clear hr14 hr24 hr34 hz
          generalize bs k = b0 at *
          cases b0
          all_goals
            go_wp2_with fail
            go_round
            case rel => exact ⟨k + 1, by omega, by go_num⟩
            case measure => simp [intOf]; omega
      · clear hr14 hr24 hr34
        go_wp2_with fail
        go_ret
        exact ⟨rfl, HB4.out⟩

end Go.Proofs.Qxb6627957a
