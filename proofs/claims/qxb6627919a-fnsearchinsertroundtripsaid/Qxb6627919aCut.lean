import Derived.Test.Qxb6627919aMake
namespace Go.Proofs.Qxb6627919a
open Go.RowKit
attribute [local go_sem ↓] Go.wp_at_zero Go.wp_at_succ

theorem ZZsearch_len (ks : List (Int × ByteArray)) (len : Nat) (hl : ks.length = len) (ao : Option Addr) (cap : Nat) (x : Int × ByteArray) (w : World) (h : Row w ao ks) (hn : len ≤ 1048576) (hs : sortedB ks = true) :
    Calls Try.prog 10 #[.slice ao len cap, .agg #[.int .i64 x.1, .string x.2]] w fun e w' => e = .returned (.tuple #[.int .i64 (cnt ks x len), .bool (anyB ks x len)]) ∧ Below w.heap.size w w' := by
  subst hl
  exact ZZsearch_any ks ao cap x w h hn hs
theorem countLess_len (ks : List (Int × ByteArray)) (len : Nat) (hl : ks.length = len) (ao : Option Addr) (cap : Nat) (x : Int × ByteArray) (w : World) (h : Row w ao ks) (hn : len ≤ 1048576) :
    Calls Try.prog 11 #[.slice ao len cap, .agg #[.int .i64 x.1, .string x.2]] w fun e w' => e = .returned (.int .i64 (cnt ks x len)) ∧ Below w.heap.size w w' := by
  subst hl
  exact countLess_any ks ao cap x w h hn

theorem Row.take {w : World} {ao : Option Addr} {ks : List (Int × ByteArray)} (h : Row w ao ks) (c : Nat) : Row w ao (ks.take c) := by
  intro i hi
  simp at hi
  obtain ⟨b, off, e, hb, h0, h1⟩ := key_cell h (show i < ks.length by omega)
  exact ⟨b, off, e, hb, by rw [← key_take (c := c) (by omega)] at h0; exact h0, by rw [← key_take (c := c) (by omega)] at h1; exact h1⟩
theorem Row.drop {w : World} {g : Nat} {ks : List (Int × ByteArray)} (h : Row w (some ⟨g, 0, none⟩) ks) (c : Nat) {ao : Option Addr} (hao : c < ks.length → ao = some ⟨g, c * 2, none⟩) : Row w ao (ks.drop c) := by
  intro i hi
  simp at hi
  obtain ⟨b, off, e, hb, h0, h1⟩ := key_cell h (show c + i < ks.length by omega)
  simp only [Option.some.injEq, Addr.mk.injEq, and_true] at e
  obtain ⟨rfl, rfl⟩ := e
  refine ⟨g, c * 2, hao (by omega), hb, ?_, ?_⟩
  · rw [← key_drop] at h0
    rw [show c * 2 + i * 2 = 0 + (c + i) * 2 by omega]
    exact h0
  · rw [← key_drop] at h1
    rw [show c * 2 + i * 2 + 1 = 0 + (c + i) * 2 + 1 by omega]
    exact h1

/-- two cells of a box, kept behind a call -/
theorem keep2 {w w' : World} {B : Nat} {a b : Value} (h0 : w.cell? ⟨B, 0, none⟩ = some a) (h1 : w.cell? ⟨B, 1, none⟩ = some b) (hb : Below w.heap.size w w') :
    w'.cell? ⟨B, 0, none⟩ = some a ∧ w'.cell? ⟨B, 1, none⟩ = some b :=
  ⟨(hb.cell (World.block_lt_of_cell? w _ h0)).trans h0, (hb.cell (World.block_lt_of_cell? w _ h1)).trans h1⟩

theorem undrew {w w' : World} (h : Below w.drew.heap.size w.drew w') : Below w.heap.size w w' := ⟨h.os, h.tape, h.output, h.size, h.block⟩

set_option maxHeartbeats 2000000 in
theorem splits_any (ks : List (Int × ByteArray)) (ao : Option Addr) (cap : Nat) (hcap : ks.length ≤ cap) (x : Int × ByteArray) (c : Int) (w : World) (h : Row w ao ks) :
    Calls Try.prog 4 #[.slice ao ks.length cap, .agg #[.int .i64 x.1, .string x.2], .int .i64 c] w fun e w' => e = .returned (.bool true) ∧ Below w.heap.size w w' := by
  go_enter Try.func4, Try.ntmps4
  go_wp2_with fail
  generalize hW : w.alloc (.cells #[.int .i64 x.1, .string x.2] 24) = W
  obtain ⟨hsz, b0, b1, hwW⟩ := box_facts hW
  have hR := h.below hwW
  have HwW : Hid (Below w.heap.size w W) := hwW
  clear hW h hwW hsz
  refine (zz13_any ks ao cap x c _ hR).mono ?_
  rintro e w1 ⟨⟨r, rfl, -⟩, hb⟩
  have hR1 := hR.below hb
  obtain ⟨d0, d1⟩ := keep2 b0 b1 hb
  have Hw1 : Hid (Below w.heap.size w w1) := below_trans HwW.out hb
  clear hR hb HwW b0 b1
  clear W
  cases r
  · go_wp2
    go_ret
    exact ⟨rfl, Hw1.out⟩
  go_wp2_with fail
  refine (tooBig_any ks ao cap x _ hR1).mono ?_
  rintro e w2 ⟨⟨r, rfl, hsmall⟩, hb⟩
  have hR2 := hR1.below hb
  obtain ⟨e0, e1⟩ := keep2 d0 d1 hb
  have Hw2 : Hid (Below w.heap.size w w2) := below_trans Hw1.out hb
  clear hR1 hb Hw1 d0 d1
  clear w1
  cases r
  rotate_right
  · go_wp2
    go_ret
    exact ⟨rfl, Hw2.out⟩
  have hn : ks.length ≤ 65536 := hsmall rfl
  clear hsmall
  by_cases hc0 : c < 0
  · go_wp2
    go_ret
    exact ⟨rfl, Hw2.out⟩
  obtain ⟨cn, rfl⟩ : ∃ cn : Nat, c = (cn : Int) := ⟨c.toNat, by omega⟩
  by_cases hc1 : ks.length < cn
  · go_wp2
    go_ret
    exact ⟨rfl, Hw2.out⟩
  have hc2 : cn ≤ ks.length := by omega
  go_wp2_with fail
  refine (keysSorted_any ks ao cap _ hR2 (by omega)).mono ?_
  rintro e w3 ⟨rfl, hb⟩
  have hR3 := hR2.below hb
  obtain ⟨f0, f1⟩ := keep2 e0 e1 hb
  have Hw3 : Hid (Below w.heap.size w w3) := below_trans Hw2.out hb
  clear hR2 hb Hw2 e0 e1
  clear w2
  cases hs : sortedB ks
  · clear hs
    go_wp2
    go_ret
    exact ⟨rfl, Hw3.out⟩
  have HS : Hid (sortedB ks = true) := hs
  clear hs
  go_wp2_with fail
  refine (toEngine_any ks ao cap _ hR3 (by omega)).mono ?_
  rintro e w4 ⟨g, rfl, hE, hb⟩
  have hR4 := hR3.below hb
  obtain ⟨g0, g1⟩ := keep2 f0 f1 hb
  have Hw4 : Hid (Below w.heap.size w w4) := below_trans Hw3.out hb
  clear hR3 hb Hw3 f0 f1
  clear w3
  go_wp2_with fail
  refine (newOkey_any _ _ _).mono ?_
  rintro e w5 ⟨rfl, hb⟩
  have hR5 := hR4.below hb
  have hE5 := hE.below hb
  obtain ⟨p0, p1⟩ := keep2 g0 g1 hb
  have Hw5 : Hid (Below w.heap.size w w5) := below_trans Hw4.out hb
  clear hR4 hE hb Hw4 g0 g1
  clear w4
  go_wp2_with fail
  generalize hW : w5.alloc (.cells #[.int .i64 x.1, .string x.2] 30) = W
  obtain ⟨hsz, b0, b1, hwW⟩ := box_facts hW
  have hR6 := hR5.below hwW
  have hE6 := hE5.below hwW
  obtain ⟨q0, q1⟩ := keep2 p0 p1 hwW
  have HwW : Hid (Below w.heap.size w W) := below_trans Hw5.out hwW
  clear hW hwW hsz Hw5 hR5 hE5 p0 p1
  generalize w5.heap.size = D at *
  clear w5
  refine (ZZsearch_any ks _ _ x _ hE6 (by omega) HS.out).mono ?_
  rintro e w7 ⟨rfl, hb⟩
  have hR7 := hR6.below hb
  have hE7 := hE6.below hb
  obtain ⟨p0, p1⟩ := keep2 q0 q1 hb
  obtain ⟨k0, k1⟩ := keep2 b0 b1 hb
  have Hw7 : Hid (Below w.heap.size w w7) := below_trans HwW.out hb
  clear hR6 hE6 hb HwW q0 q1 b0 b1
  clear W
  go_wp2_with fail
  have i1 : (0 : Int) ≤ (cn : Int) := by omega
  have i2 : (cn : Int) ≤ (ks.length : Int) := by omega
  have HT : Hid (sortedB (ks.take cn) = true) := take_sorted HS.out cn
  have HD : Hid (sortedB (ks.drop cn) = true) := drop_sorted HS.out cn
  have hT := hE7.take cn
  go_region_held3 (fun w' => w'.cell? ⟨D, 0, none⟩ = some (.int .i64 x.1) ∧ w'.cell? ⟨D, 1, none⟩ = some (.string x.2)) (first | exact ⟨k0, k1⟩ | exact keep2 (w := w7.drew) k0 k1 hb) (first | (go_at_call 10; refine (ZZsearch_len (ks.take cn) cn (by simp; omega) _ _ x _ ?_ (by omega) HT.out).mono ?_; (exact hT); rintro e w' ⟨rfl, hb⟩))
  have hb' : Below w7.heap.size w7 w' := undrew hb
  have hR8 := hR7.below hb'
  have hE8 := hE7.below hb'
  obtain ⟨q0, q1⟩ := keep2 p0 p1 hb'
  obtain ⟨l0, l1⟩ := keep2 k0 k1 hb'
  have Hw8 : Hid (Below w.heap.size w w') := below_trans Hw7.out hb'
  clear hR7 hE7 hT hb hb' Hw7 p0 p1 k0 k1
  go_wp2_with fail
  generalize w' = w8 at *
  obtain ⟨ao2, hao2, hD8⟩ : ∃ ao2, (if ks.length = cn then some (⟨g, 0, none⟩ : Addr) else some ⟨g, cn * 2, none⟩) = ao2 ∧ Row w8 ao2 (ks.drop cn) := ⟨_, rfl, hE8.drop cn (fun h => by rw [if_neg (by omega)])⟩
  go_region_held3 (fun w' => w'.cell? ⟨D, 0, none⟩ = some (.int .i64 x.1) ∧ w'.cell? ⟨D, 1, none⟩ = some (.string x.2)) (first | exact ⟨l0, l1⟩ | exact keep2 (w := w8.drew) l0 l1 hb) (first | (go_at_call 10; refine (ZZsearch_len (ks.drop cn) (ks.length - cn) (by simp) ao2 _ x _ ?_ (by omega) HD.out).mono ?_; (exact hD8); rintro e w' ⟨rfl, hb⟩))
  have hb' : Below w8.heap.size w8 w' := undrew hb
  have hR9 := hR8.below hb'
  obtain ⟨p0, p1⟩ := keep2 q0 q1 hb'
  have Hw9 : Hid (Below w.heap.size w w') := below_trans Hw8.out hb'
  clear hR8 hE8 hD8 hao2 hb hb' Hw8 q0 q1 l0 l1 HT HD
  generalize w' = w9 at *
  clear w8
  go_wp2_with fail
  refine (countLess_any ks ao cap x _ hR9 (by omega)).mono ?_
  rintro e w10 ⟨rfl, hb⟩
  have hR10 := hR9.below hb
  obtain ⟨q0, q1⟩ := keep2 p0 p1 hb
  have Hw10 : Hid (Below w.heap.size w w10) := below_trans Hw9.out hb
  clear hR9 hb Hw9 p0 p1
  go_wp2_with fail
  refine (anyEqual_any ks ao cap x _ hR10 (by omega)).mono ?_
  rintro e w11 ⟨rfl, hb⟩
  have hR11 := hR10.below hb
  obtain ⟨p0, p1⟩ := keep2 q0 q1 hb
  have Hw11 : Hid (Below w.heap.size w w11) := below_trans Hw10.out hb
  clear hR10 hb Hw10 q0 q1
  go_wp2_with fail
  have i3 : (cn : Int) ≤ (cap : Int) := by omega
  go_region_held3 (fun w' => w'.cell? ⟨w.heap.size, 0, none⟩ = some (.int .i64 x.1) ∧ w'.cell? ⟨w.heap.size, 1, none⟩ = some (.string x.2)) (first | exact ⟨p0, p1⟩ | exact keep2 (w := w11.drew) p0 p1 hb) (first | (go_at_call 11; refine (countLess_len (ks.take cn) cn (by simp; omega) _ _ x _ ?_ (by omega)).mono ?_; (exact hR11.take cn); rintro e w' ⟨rfl, hb⟩))
  have Hw12 : Hid (Below w.heap.size w w') := below_trans Hw11.out (undrew hb)
  clear hR11 hb Hw11 p0 p1
  have e1 : (ks.take cn).length = cn := by simp; omega
  have e2 : (ks.drop cn).length = ks.length - cn := by simp
  have hcl := cut_law ks x cn hc2
  have hany := any_cut ks x cn hc2
  have hA1 := cnt_le (ks.take cn) x cn
  have hA2 := cnt_le (ks.drop cn) x (ks.length - cn)
  rw [e1, e2] at hcl hany
  rw [hcl, hany]
  clear hcl hany e1 e2
  generalize cnt (ks.take cn) x cn = A1 at *
  generalize cnt (ks.drop cn) x (ks.length - cn) = A2 at *
  generalize anyB (ks.take cn) x cn = F1 at *
  generalize anyB (ks.drop cn) x (ks.length - cn) = F2 at *
  have hq : (((A1 + A2 : Nat) : Int) == (A1 : Int) + (A2 : Int)) = true := by simp
  cases F1 <;> cases F2
  all_goals
    go_wp2
    go_ret
    exact ⟨rfl, Hw12.out⟩

end Go.Proofs.Qxb6627919a
