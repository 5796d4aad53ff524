import Derived.Test.Qxb6627919aCut
namespace Go.Proofs.Qxb6627919a
open Go.RowKit
attribute [local go_sem ↓] Go.wp_at_zero Go.wp_at_succ

/-- The cells of a list of keys, one behind the other. -/
def cellsOf (ks : List (Int × ByteArray)) : List Value := ks.flatMap fun k => [.int .i64 k.1, .string k.2]

theorem cellsOf_append (us vs : List (Int × ByteArray)) : cellsOf (us ++ vs) = cellsOf us ++ cellsOf vs := by simp [cellsOf]
theorem cellsOf_one (x : Int × ByteArray) : cellsOf [x] = [.int .i64 x.1, .string x.2] := rfl
theorem cellsOf_at (ks : List (Int × ByteArray)) (i : Nat) (hi : i < ks.length) : (cellsOf ks)[i * 2]? = some (.int .i64 (key ks i).1) ∧ (cellsOf ks)[i * 2 + 1]? = some (.string (key ks i).2) := by
  induction ks generalizing i with
  | nil => simp at hi
  | cons x ks ih =>
    cases i with
    | zero => simp [cellsOf, key]
    | succ i =>
      have h := ih i (by simpa using hi)
      have e : cellsOf (x :: ks) = .int .i64 x.1 :: .string x.2 :: cellsOf ks := by simp [cellsOf]
      rw [e, key_cons_succ, show (i + 1) * 2 = i * 2 + 1 + 1 by omega]
      simpa using h

theorem row_of_owns {w : World} {base g n cap : Nat} {ks : List (Int × ByteArray)} (h : w.ownsRow base 24 2 (.slice (some ⟨g, 0, none⟩) n cap) n (cellsOf ks)) : Row w (some ⟨g, 0, none⟩) ks := by
  intro i hi
  have hc := h.cells (g := g) rfl
  have h1 := hc _ _ (cellsOf_at ks i hi).1
  have h2 := hc _ _ (cellsOf_at ks i hi).2
  rw [Addr.add_lit] at h1 h2
  exact ⟨g, 0, rfl, World.block_lt_of_cell? w _ h1, h1, h2⟩

theorem news2 (w : World) (a b : Value) (T : TypeId) : ∀ j u, [a, b][j]? = some u → (w.alloc (.cells #[a, b] T)).cell? ((⟨w.heap.size, 0, none⟩ : Addr).add j) = some u := by
  intro j u hj
  match j, hj with
  | 0, hj => simp at hj; subst hj; rw [Addr.add_lit]; go_simp
  | 1, hj => simp at hj; subst hj; rw [Addr.add_lit]; go_simp

theorem one2 (x : Int × ByteArray) : ∀ u ∈ [Value.int .i64 x.1, .string x.2], u.oneCell' = true := by
  intro u hu
  simp at hu
  rcases hu with rfl | rfl <;> rfl

theorem take_key (ks : List (Int × ByteArray)) (k : Nat) (h : k < ks.length) : ks.take (k + 1) = ks.take k ++ [key ks k] := by
  rw [List.take_succ_eq_append_getElem h]
  simp [key, List.getD, h]
theorem insAt_grow (ks : List (Int × ByteArray)) (x : Int × ByteArray) (i k : Nat) (h1 : i ≤ k) (h : k < ks.length) : ks.take i ++ x :: (ks.take (k + 1)).drop i = (ks.take i ++ x :: (ks.take k).drop i) ++ [key ks k] := by
  rw [take_key ks k h, List.drop_append_of_le_length (by simp; omega)]
  simp

theorem Try.info24 : (Try.prog.info? 24).map (fun i => (i.zero, i.size, i.bytes)) = some (some (.agg #[.int .i64 0, .string ByteArray.empty]), 2, 24) := by kernel_rfl

theorem keysSorted_len (ks : List (Int × ByteArray)) (len : Nat) (hl : ks.length = len) (ao : Option Addr) (cap : Nat) (w : World) (h : Row w ao ks) (hn : len ≤ 1048576) :
    Calls Try.prog 7 #[.slice ao len cap] w fun e w' => e = .returned (.bool (sortedB ks)) ∧ Below w.heap.size w w' := by
  subst hl
  exact keysSorted_any ks ao cap w h hn
theorem toEngine_len (ks : List (Int × ByteArray)) (len : Nat) (hl : ks.length = len) (ao : Option Addr) (cap : Nat) (w : World) (h : Row w ao ks) (hn : len ≤ 1048576) :
    Calls Try.prog 8 #[.slice ao len cap] w fun e w' => ∃ g, e = .returned (.slice (some ⟨g, 0, none⟩) len len) ∧ Row w' (some ⟨g, 0, none⟩) ks ∧ Below w.heap.size w w' := by
  subst hl
  exact toEngine_any ks ao cap w h hn

set_option maxHeartbeats 2000000 in
theorem insert_any (ks : List (Int × ByteArray)) (ao : Option Addr) (cap : Nat) (x : Int × ByteArray) (w : World) (h : Row w ao ks) :
    Calls Try.prog 3 #[.slice ao ks.length cap, .agg #[.int .i64 x.1, .string x.2]] w fun e w' => e = .returned (.bool true) ∧ Below w.heap.size w w' := by
  obtain ⟨i0, hi, hz0, hz1, hz2⟩ := info_parts Try.info24
  go_enter Try.func3, Try.ntmps3
  go_wp2_with fail
  generalize hW : w.alloc (.cells #[.int .i64 x.1, .string x.2] 24) = W
  obtain ⟨hsz, b0, b1, hwW⟩ := box_facts hW
  have hR := h.below hwW
  have HwW : Hid (Below w.heap.size w W) := hwW
  clear hW h hwW hsz
  refine (zz5_any ks ao cap x _ hR).mono ?_
  rintro e w1 ⟨⟨r, rfl, -⟩, hb⟩
  have hR1 := hR.below hb
  obtain ⟨d0, d1⟩ := keep2 b0 b1 hb
  have Hw1 : Hid (Below w.heap.size w w1) := below_trans HwW.out hb
  clear hR hb HwW b0 b1
  clear W
  cases r
  · go_wp2
    go_ret
    exact ⟨rfl, Hw1.out⟩
  go_wp2_with fail
  refine (tooBig_any ks ao cap x _ hR1).mono ?_
  rintro e w2 ⟨⟨r, rfl, hsmall⟩, hb⟩
  have hR2 := hR1.below hb
  obtain ⟨e0, e1⟩ := keep2 d0 d1 hb
  have Hw2 : Hid (Below w.heap.size w w2) := below_trans Hw1.out hb
  clear hR1 hb Hw1 d0 d1
  clear w1
  cases r
  rotate_right
  · go_wp2
    go_ret
    exact ⟨rfl, Hw2.out⟩
  have hn : ks.length ≤ 65536 := hsmall rfl
  clear hsmall
  go_wp2_with fail
  refine (keysSorted_any ks ao cap _ hR2 (by omega)).mono ?_
  rintro e w3 ⟨rfl, hb⟩
  have hR3 := hR2.below hb
  obtain ⟨f0, f1⟩ := keep2 e0 e1 hb
  have Hw3 : Hid (Below w.heap.size w w3) := below_trans Hw2.out hb
  clear hR2 hb Hw2 e0 e1
  clear w2
  cases hs : sortedB ks
  · clear hs
    go_wp2
    go_ret
    exact ⟨rfl, Hw3.out⟩
  have HS : Hid (sortedB ks = true) := hs
  clear hs
  go_wp2_with fail
  refine (toEngine_any ks ao cap _ hR3 (by omega)).mono ?_
  rintro e w4 ⟨g, rfl, hE, hb⟩
  have hR4 := hR3.below hb
  obtain ⟨g0, g1⟩ := keep2 f0 f1 hb
  have Hw4 : Hid (Below w.heap.size w w4) := below_trans Hw3.out hb
  clear hR3 hb Hw3 f0 f1
  clear w3
  go_wp2_with fail
  refine (newOkey_any _ _ _).mono ?_
  rintro e w5 ⟨rfl, hb⟩
  have hR5 := hR4.below hb
  have hE5 := hE.below hb
  obtain ⟨p0, p1⟩ := keep2 g0 g1 hb
  have Hw5 : Hid (Below w.heap.size w w5) := below_trans Hw4.out hb
  clear hR4 hE hb Hw4 g0 g1
  clear w4
  go_wp2_with fail
  generalize hW : w5.alloc (.cells #[.int .i64 x.1, .string x.2] 30) = W
  obtain ⟨hsz, b0, b1, hwW⟩ := box_facts hW
  have hR6 := hR5.below hwW
  have hE6 := hE5.below hwW
  obtain ⟨q0, q1⟩ := keep2 p0 p1 hwW
  have HwW : Hid (Below w.heap.size w W) := below_trans Hw5.out hwW
  clear hW hwW hsz Hw5 hR5 hE5 p0 p1
  generalize w5.heap.size = D at *
  clear w5
  refine (ZZsearch_any ks _ _ x _ hE6 (by omega) HS.out).mono ?_
  rintro e w7 ⟨rfl, hb⟩
  have hR7 := hR6.below hb
  obtain ⟨p0, p1⟩ := keep2 q0 q1 hb
  obtain ⟨k0, k1⟩ := keep2 b0 b1 hb
  have Hw7 : Hid (Below w.heap.size w w7) := below_trans HwW.out hb
  clear hR6 hE6 hb HwW q0 q1 b0 b1
  clear W
  go_wp2_with fail
  refine (countLess_any ks ao cap x _ hR7 (by omega)).mono ?_
  rintro e w8 ⟨rfl, hb⟩
  have hR8 := hR7.below hb
  obtain ⟨q0, q1⟩ := keep2 p0 p1 hb
  obtain ⟨l0, l1⟩ := keep2 k0 k1 hb
  have Hw8 : Hid (Below w.heap.size w w8) := below_trans Hw7.out hb
  clear hR7 hb Hw7 p0 p1 k0 k1
  clear w7
  go_wp2_with fail
  refine (anyEqual_any ks ao cap x _ hR8 (by omega)).mono ?_
  rintro e w9 ⟨rfl, hb⟩
  have hR9 := hR8.below hb
  obtain ⟨p0, p1⟩ := keep2 q0 q1 hb
  obtain ⟨k0, k1⟩ := keep2 l0 l1 hb
  have Hw9 : Hid (Below w.heap.size w w9) := below_trans Hw8.out hb
  clear hR8 hb Hw8 q0 q1 l0 l1
  clear w8
  generalize hA : cnt ks x ks.length = A
  have HA : Hid (cnt ks x ks.length = A) := hA
  have hAl : A ≤ ks.length := by rw [← hA]; exact cnt_le _ _ _
  clear hA
  generalize anyB ks x ks.length = F
  have hff : (F != F) = false := by cases F <;> rfl
  go_wp2_with (first | (at_make; refine wpList_make_own _ rfl _ _ 22 rfl w9.heap.size 24 i0 (.agg #[.int .i64 0, .string ByteArray.empty]) 2 Try.underlying22 hi hz0 hz1 _ _ _ (ks.length + 1) rfl rfl (by omega) (by rw [hz2]; omega) (by unfold maxLen; omega) (Nat.le_refl _) ?_))
  intro w10 hown hgrow
  have hbel : Below w9.heap.size w9 w10 := (Below.refl _ _).grown hgrow (Nat.le_refl _) (fun k hk => by cases hk)
  clear hgrow
  generalize hG : w9.heap.size = G at *
  have HG : Hid (w9.heap.size = G) := hG
  clear hG
  go_wp2_with fail
  go_loopw [9, 10] (fun v j wr => ∃ k : Nat, k ≤ A ∧ j = .int .i64 k ∧ v = .slice (some ⟨G, 0, none⟩) k (ks.length + 1) ∧ wr.ownsRow G 24 2 (.slice (some ⟨G, 0, none⟩) k (ks.length + 1)) k (cellsOf (ks.take k)) ∧ Below G w9 wr) (fun _ j _ => A - (intOf j).toNat)
  case atStart => exact ⟨0, Nat.zero_le _, rfl, rfl, hown, hbel⟩
  case round =>
    clear hown hbel
    obtain ⟨k, hk, rfl, rfl, hown, hbel⟩ := hrel
    by_cases hlt : k < A
    · have hr : Row wr ao ks := hR9.below (by rw [HG.out]; exact hbel)
      obtain ⟨b, off, rfl, hb, c0, c1⟩ := key_cell hr (show k < ks.length by omega)
      have hGw : G ≤ wr.heap.size := by have := hbel.size; rw [HG.out] at this; exact this
      have HB : Hid (Below G w9 wr) := hbel
      clear hr hbel
      go_wp2_with (first | (at_builtin; refine wpList_append_fits _ rfl _ _ 22 rfl G 24 i0 2 Try.underlying22 hi hz1 G k (ks.length + 1) (cellsOf (ks.take k)) rfl (hown.alloc _) ⟨wr.heap.size, 0, none⟩ 1 1 [.int .i64 (key ks k).1, .string (key ks k).2] rfl rfl (news2 _ _ _ _) (one2 _) (by omega) ?_))
      intro w11 hown' hgrow
      have hown2 : w11.ownsRow G 24 2 (.slice (some ⟨G, 0, none⟩) (k + 1) (ks.length + 1)) (k + 1) (cellsOf (ks.take (k + 1))) := by
        rw [take_key ks k (by omega), cellsOf_append]
        exact hown'
      have HB2 : Hid (Below G w9 w11) := ((HB.out.alloc hGw _).grown hgrow (by simp; omega) (fun j hj => by cases hj; exact Nat.le_refl _))
      clear hown' hgrow hown
      go_wp2
      go_roundw
      case rel => exact ⟨k + 1, by omega, by go_num, rfl, hown2, HB2.out⟩
      case measure => simp [intOf]; omega
    · have hkA : k = A := by omega
      subst hkA
      have hGw : G ≤ wr.heap.size := by have := hbel.size; rw [HG.out] at this; exact this
      have HB : Hid (Below G w9 wr) := hbel
      have s0 := (hbel.cell (p := ⟨w.heap.size, 0, none⟩) (by have := World.block_lt_of_cell? w9 _ p0; rw [HG.out] at this; exact this)).trans p0
      have s1 := (hbel.cell (p := ⟨w.heap.size, 1, none⟩) (by have := World.block_lt_of_cell? w9 _ p0; rw [HG.out] at this; exact this)).trans p1
      clear hbel
      go_wp2_with (first | (at_builtin; refine wpList_append_fits _ rfl _ _ 22 rfl G 24 i0 2 Try.underlying22 hi hz1 G k (ks.length + 1) (cellsOf (ks.take k)) rfl (hown.alloc _) ⟨wr.heap.size, 0, none⟩ 1 1 [.int .i64 x.1, .string x.2] rfl rfl (news2 _ _ _ _) (one2 _) (by omega) ?_))
      intro w11 hown' hgrow
      have hown2 : w11.ownsRow G 24 2 (.slice (some ⟨G, 0, none⟩) (k + 1) (ks.length + 1)) (k + 1) (cellsOf (ks.take k ++ x :: (ks.take k).drop k)) := by
        rw [show (ks.take k).drop k = [] by simp, cellsOf_append]
        exact hown'
      have HB2 : Hid (Below G w9 w11) := ((HB.out.alloc hGw _).grown hgrow (by simp; omega) (fun j hj => by cases hj; exact Nat.le_refl _))
      clear hown' hgrow hown s0 s1
      obtain ⟨ins, HI⟩ : ∃ ins, Hid (insAt ks x k = ins ∧ ins.length = ks.length + 1 ∧ sortedB ins = true ∧ cnt ins x (ks.length + 1) = k ∧ anyB ins x (ks.length + 1) = true) := by
        obtain ⟨h1, h2, h3⟩ := round_trip HS.out x
        rw [HA.out] at h1 h2 h3
        rw [insAt_length hAl] at h2 h3
        exact ⟨_, rfl, insAt_length hAl, h1, h2, h3⟩
      go_wp2_with fail
      go_loopw [9, 11] (fun v j wr => ∃ m : Nat, k ≤ m ∧ m ≤ ks.length ∧ j = .int .i64 m ∧ v = .slice (some ⟨G, 0, none⟩) (m + 1) (ks.length + 1) ∧ wr.ownsRow G 24 2 (.slice (some ⟨G, 0, none⟩) (m + 1) (ks.length + 1)) (m + 1) (cellsOf (ks.take k ++ x :: (ks.take m).drop k)) ∧ Below G w9 wr) (fun _ j _ => ks.length - (intOf j).toNat)
      case atStart => exact ⟨k, Nat.le_refl _, hAl, rfl, rfl, hown2, HB2.out⟩
      case round =>
        clear hown2
        obtain ⟨m, hkm, hm, rfl, rfl, hown, hbel⟩ := hrel
        have hGw2 : G ≤ wr.heap.size := by have := hbel.size; rw [HG.out] at this; exact this
        by_cases hlt2 : m < ks.length
        · have hr : Row wr ao ks := hR9.below (by rw [HG.out]; exact hbel)
          obtain ⟨b, off, rfl, hb, c0, c1⟩ := key_cell hr (show m < ks.length by omega)
          have HB3 : Hid (Below G w9 wr) := hbel
          clear hr hbel
          go_wp2_with (first | (at_builtin; refine wpList_append_fits _ rfl _ _ 22 rfl G 24 i0 2 Try.underlying22 hi hz1 G (m + 1) (ks.length + 1) (cellsOf (ks.take k ++ x :: (ks.take m).drop k)) rfl (hown.alloc _) ⟨wr.heap.size, 0, none⟩ 1 1 [.int .i64 (key ks m).1, .string (key ks m).2] rfl rfl (news2 _ _ _ _) (one2 _) (by omega) ?_))
          intro w12 hown' hgrow
          have hown3 : w12.ownsRow G 24 2 (.slice (some ⟨G, 0, none⟩) (m + 1 + 1) (ks.length + 1)) (m + 1 + 1) (cellsOf (ks.take k ++ x :: (ks.take (m + 1)).drop k)) := by
            rw [insAt_grow ks x k m hkm (by omega), cellsOf_append]
            exact hown'
          have HB4 : Hid (Below G w9 w12) := ((HB3.out.alloc hGw2 _).grown hgrow (by simp; omega) (fun j hj => by cases hj; exact Nat.le_refl _))
          clear hown' hgrow hown
          go_wp2
          go_roundw
          case rel => exact ⟨m + 1, by omega, by omega, by go_num, rfl, hown3, HB4.out⟩
          case measure => simp [intOf]; omega
        · have hmn : m = ks.length := by omega
          subst hmn
          have hI : Row wr (some ⟨G, 0, none⟩) ins := by
            rw [← HI.out.1]
            refine row_of_owns (base := G) (n := ks.length + 1) (cap := ks.length + 1) ?_
            unfold insAt
            rw [List.take_length] at hown
            exact hown
          have HB3 : Hid (Below w9.heap.size w9 wr) := by rw [HG.out]; exact hbel
          obtain ⟨s0, s1⟩ := keep2 k0 k1 HB3.out
          clear hown hbel
          go_wp2_with fail
          refine (keysSorted_len ins _ HI.out.2.1 _ _ _ hI (by omega)).mono ?_
          rintro e w12 ⟨rfl, hb⟩
          rw [HI.out.2.2.1]
          have hI2 := hI.below hb
          obtain ⟨t0, t1⟩ := keep2 s0 s1 hb
          have Hw12 : Hid (Below w.heap.size w w12) := below_trans (below_trans Hw9.out HB3.out) hb
          clear hI hb s0 s1
          go_wp2_with fail
          go_region_held3 (fun w' => w'.cell? ⟨D, 0, none⟩ = some (.int .i64 x.1) ∧ w'.cell? ⟨D, 1, none⟩ = some (.string x.2)) (first | exact ⟨t0, t1⟩ | exact tt | exact keep2 tt.1 tt.2 hb2) (first | (go_at_call 8; refine (toEngine_len ins _ HI.out.2.1 _ _ _ ?_ (by omega)).mono ?_; (exact hI2); rintro e w13 ⟨g2, rfl, hE2, hb1⟩; have tt := keep2 (w := w12.drew) t0 t1 hb1) | (go_at_call 10; refine (ZZsearch_len ins _ HI.out.2.1 _ _ x _ hE2 (by omega) HI.out.2.2.1).mono ?_; rintro e w14 ⟨rfl, hb2⟩))
          have Hw14 : Hid (Below w.heap.size w w14) := below_trans (below_trans Hw12.out (undrew hb1)) hb2
          rw [HI.out.2.2.2.1, HI.out.2.2.2.2]
          clear hb1 hb2 hE2 tt t0 t1 hI2
          go_wp2
          go_ret
          exact ⟨rfl, Hw14.out⟩

end Go.Proofs.Qxb6627919a
