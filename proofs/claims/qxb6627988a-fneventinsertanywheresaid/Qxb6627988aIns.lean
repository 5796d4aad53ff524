import Derived.Test.Qxb6627988aSplit
import Derived.Test.Qxb6627988aInsPlain
namespace Go.Proofs.Qxb6627988a
open Go.RowKit

/-- The cells of the first k pointers. -/
def cellsP (f : Nat → Nat) : Nat → List Value
  | 0 => []
  | k + 1 => cellsP f k ++ [.pointer (some ⟨f k, 0, none⟩)]
theorem cellsP_succ (f : Nat → Nat) (k : Nat) : cellsP f (k + 1) = cellsP f k ++ [.pointer (some ⟨f k, 0, none⟩)] := rfl
theorem cellsP_length (f : Nat → Nat) (k : Nat) : (cellsP f k).length = k := by
  induction k with
  | zero => rfl
  | succ k ih => simp [cellsP, ih]
theorem cellsP_at (f : Nat → Nat) (k i : Nat) (h : i < k) : (cellsP f k)[i]? = some (.pointer (some ⟨f i, 0, none⟩)) := by
  induction k with
  | zero => omega
  | succ k ih =>
    have hl := cellsP_length f k
    rw [cellsP_succ]
    by_cases e : i = k
    · subst e
      rw [List.getElem?_append_right (by omega), hl]
      simp
    · rw [List.getElem?_append_left (by omega)]
      exact ih (by omega)
theorem one_ptr (b : Nat) : ∀ u ∈ [Value.pointer (some ⟨b, 0, none⟩)], u.oneCell' = true := by
  intro u hu
  simp at hu
  subst hu
  rfl

/-- the row of events with one put in -/
theorem erow_ins {w w' : World} {G E n c pos NE : Nat} {A : Nat → Nat} {nm : Nat → ByteArray} {o : ByteArray} {base : Nat} (hp : pos ≤ n) (h : ERow w (some ⟨E, 0, none⟩) n A nm) (hne : w.cell? ⟨NE, 0, none⟩ = some (.string o)) (hb : Below w.heap.size w w')
    (hown : w'.ownsRow base 34 1 (.slice (some ⟨G, 0, none⟩) (n + 1) c) (n + 1) (cellsP (insF A NE pos) (n + 1))) : ERow w' (some ⟨G, 0, none⟩) (n + 1) (insF A NE pos) (insF nm o pos) := by
  intro i hi
  have hc := hown.cells (g := G) rfl i _ (cellsP_at (insF A NE pos) (n + 1) i hi)
  rw [Addr.add_lit] at hc
  have hG := World.block_lt_of_cell? w' _ hc
  have hev : w'.cell? ⟨insF A NE pos i, 0, none⟩ = some (.string (insF nm o pos i)) := by
    by_cases e : i < pos
    · rw [insF_lt e, insF_lt e]
      obtain ⟨_, _, _, _, _, _, h1⟩ := h i (by omega)
      exact cell_below h1 hb
    · by_cases e2 : i = pos
      · subst e2
        rw [insF_eq, insF_eq]
        exact cell_below hne hb
      · obtain ⟨m, rfl⟩ : ∃ m, i = m + 1 := ⟨i - 1, by omega⟩
        rw [insF_gt (by omega), insF_gt (by omega)]
        obtain ⟨_, _, _, _, _, _, h1⟩ := h m (by omega)
        exact cell_below h1 hb
  exact ⟨G, 0, rfl, hG, World.block_lt_of_cell? w' _ hev, hc, hev⟩

/-- a new package in a box of its own -/
theorem one_pkg {w W : World} {p : ByteArray} {id ver : Int} {v : Value} (h : w.alloc (.cells #[.string p, .int .u16 id, .int .i64 ver, .slice none 0 0, .slice none 0 0, v] 33) = W) :
    W.cell? ⟨w.heap.size, 5, none⟩ = some v ∧ Below w.heap.size w W := by
  subst h
  exact ⟨pkg_cell _ _ _ _ _, below_alloc _ _⟩

theorem ptr_none (A : Nat → Nat) : ptr A none = .pointer none := rfl
theorem ptr_some (A : Nat → Nat) (i : Nat) : ptr A (some i) = .pointer (some ⟨A i, 0, none⟩) := rfl
theorem ptr_ins_no (A : Nat → Nat) (NE pos : Nat) (f : Option Nat) : ptr (insF A NE pos) (f.map fun i => if i < pos then i else i + 1) = ptr A f ∧ (f.map fun i => if i < pos then i else i + 1).isSome = f.isSome := by
  cases f with
  | none => exact ⟨rfl, rfl⟩
  | some i =>
    refine ⟨?_, rfl⟩
    show Value.pointer (some ⟨insF A NE pos (if i < pos then i else i + 1), 0, none⟩) = .pointer (some ⟨A i, 0, none⟩)
    by_cases e : i < pos
    · rw [if_pos e, insF_lt e]
    · rw [if_neg e, insF_gt (by omega)]

set_option maxRecDepth 100000 in
set_option maxHeartbeats 8000000 in
theorem insert_any (p q o : ByteArray) (id ver kk : Int) (ao : Option Addr) (n c : Nat) (nm : Nat → ByteArray) (w : World) (h : SRow w ao n nm) :
    Calls Try.prog 4 #[.string p, .int .u16 id, .int .i64 ver, .slice ao n c, .string q, .string o, .int .i64 kk] w fun e w' => e = .returned (.bool true) ∧ Below w.heap.size w w' := by
  obtain ⟨i0, hi, hz0, hz1, hz2⟩ := info_parts Try.info34
  go_enter Try.func4, Try.ntmps4
  go_wp2_with fail
  refine (zz10_any p q o id ver kk ao n c nm _ h).mono ?_
  rintro e w' ⟨⟨r, rfl⟩, rfl⟩
  cases r
  · go_wp2
    go_ret
    exact ⟨rfl, Below.refl _ _⟩
  by_cases hbig : 65536 < n
  · go_wp2
    go_ret
    exact ⟨rfl, Below.refl _ _⟩
  go_wp2_with fail
  refine (sizeOK_any p q o ao n c (by omega) nm _ h).mono ?_
  rintro e w' ⟨⟨r, rfl⟩, rfl⟩
  cases r
  · go_wp2
    go_ret
    exact ⟨rfl, Below.refl _ _⟩
  by_cases hk0 : kk < 0
  · go_wp2
    go_ret
    exact ⟨rfl, Below.refl _ _⟩
  obtain ⟨pos, rfl⟩ : ∃ k : Nat, kk = (k : Int) := ⟨kk.toNat, by omega⟩
  by_cases hk1 : n < pos
  · go_wp2
    go_ret
    exact ⟨rfl, Below.refl _ _⟩
  have hk2 : pos ≤ n := by omega
  go_wp2_with fail
  refine (build_any p id ver ao n c (by omega) nm _ h).mono ?_
  rintro e w1 ⟨PB, rfl, hPB, hp, hE, hb⟩
  have hR1 := h.below hb
  have Hb1 : Hid (Below w.heap.size w w1) := hb
  generalize (fun p => w.heap.size + 1 + p) = A at *
  clear h hb
  generalize hEE : w.heap.size = E at *
  have HE : Hid (w.heap.size = E) := hEE
  clear hEE
  go_wp2_with fail
  refine (event_any PB q _ n n (by omega) A nm _ hp hE).mono ?_
  rintro e w2 ⟨rfl, rfl⟩
  go_wp2_with (first | (at_make; refine wpList_make_own _ rfl _ _ 27 rfl (w1.heap.size + 1) 34 i0 (.pointer none) 1 Try.underlying27 hi hz0 hz1 _ _ _ (n + 1) rfl rfl (by omega) (by rw [hz2]; omega) (by unfold maxLen; omega) (by simp) ?_))
  intro w3 hown hgrow
  have hs2 : (w1.alloc (.cells #[.string o] 39)).heap.size = w1.heap.size + 1 := by simp
  have hb2 : Below w1.heap.size w1 (w1.alloc (.cells #[.string o] 39)) := below_alloc _ _
  have hne2 : (w1.alloc (.cells #[.string o] 39)).cell? ⟨w1.heap.size, 0, none⟩ = some (.string o) := by go_simp
  generalize w1.alloc (.cells #[.string o] 39) = W2 at *
  have hE2 := hE.below hb2
  have hR2 := hR1.below hb2
  have Hb2 : Hid (Below w.heap.size w W2) := below_trans (by rw [HE.out]; exact Hb1.out) hb2
  clear hE hR1 hp Hb1 hb2
  generalize w1.heap.size = NE at *
  have hb3 : Below (NE + 1) W2 w3 := by rw [← hs2]; exact (Below.refl _ _).grown hgrow (Nat.le_refl _) (fun k hk => by cases hk)
  have HS2 : Hid (W2.heap.size = NE + 1) := hs2
  clear hgrow hs2
  go_wp2_with fail
  go_loopw [20, 21] (fun v j wr => ∃ k : Nat, k ≤ pos ∧ j = .int .i64 k ∧ v = .slice (some ⟨NE + 1, 0, none⟩) k (n + 1) ∧ wr.ownsRow (NE + 1) 34 1 (.slice (some ⟨NE + 1, 0, none⟩) k (n + 1)) k (cellsP (insF A NE pos) k) ∧ Below (NE + 1) W2 wr) (fun _ j _ => pos - (intOf j).toNat)
  case atStart => exact ⟨0, Nat.zero_le _, rfl, rfl, hown, hb3⟩
  case round =>
    clear hown hb3
    obtain ⟨k, hk, rfl, rfl, hown, hbel⟩ := hrel
    have hGw : NE + 1 ≤ wr.heap.size := by have := hbel.size; rw [HS2.out] at this; exact this
    have HBl : Hid (Below (NE + 1) W2 wr) := hbel
    by_cases hlt : k < pos
    · obtain ⟨b, off, e, _, _, c0, _⟩ := hE2.below (w' := wr) (by rw [HS2.out]; exact hbel) k (by omega)
      simp only [Option.some.injEq, Addr.mk.injEq, and_true] at e
      obtain ⟨rfl, rfl⟩ := e
      rw [Nat.zero_add] at c0
      clear hbel
      go_wp2_with (first | (at_builtin; refine wpList_append_fits _ rfl (.tmp 81) (.tmp 86) 27 rfl (NE + 1) 34 i0 1 Try.underlying27 hi hz1 (NE + 1) k (n + 1) (cellsP (insF A NE pos) k) rfl (hown.alloc _) ⟨wr.heap.size, 0, none⟩ 1 1 [.pointer (some ⟨A k, 0, none⟩)] rfl rfl (cell_one_new _ _ _) (one_ptr _) (by omega) ?_))
      intro w4 hown' hgrow
      have hown2 : w4.ownsRow (NE + 1) 34 1 (.slice (some ⟨NE + 1, 0, none⟩) (k + 1) (n + 1)) (k + 1) (cellsP (insF A NE pos) (k + 1)) := by
        rw [cellsP_succ, insF_lt hlt]
        exact hown'
      have HB2 : Hid (Below (NE + 1) W2 w4) := ((HBl.out.alloc hGw _).grown hgrow (by simp; omega) (fun j hj => by cases hj; exact Nat.le_refl _))
      clear hown' hgrow hown
      go_wp2_with fail
      go_roundw
      case rel => exact ⟨k + 1, by omega, by go_num, rfl, hown2, HB2.out⟩
      case measure => simp [intOf]; omega
    · have hkp : k = pos := by omega
      subst hkp
      clear hbel
      go_wp2_with (first | (at_builtin; refine wpList_append_fits _ rfl (.tmp 88) (.tmp 90) 27 rfl (NE + 1) 34 i0 1 Try.underlying27 hi hz1 (NE + 1) k (n + 1) (cellsP (insF A NE k) k) rfl (hown.alloc _) ⟨wr.heap.size, 0, none⟩ 1 1 [.pointer (some ⟨NE, 0, none⟩)] rfl rfl (cell_one_new _ _ _) (one_ptr _) (by omega) ?_))
      intro w4 hown' hgrow
      have hown2 : w4.ownsRow (NE + 1) 34 1 (.slice (some ⟨NE + 1, 0, none⟩) (k + 1) (n + 1)) (k + 1) (cellsP (insF A NE k) (k + 1)) := by
        rw [cellsP_succ, insF_eq]
        exact hown'
      have HB2 : Hid (Below (NE + 1) W2 w4) := ((HBl.out.alloc hGw _).grown hgrow (by simp; omega) (fun j hj => by cases hj; exact Nat.le_refl _))
      clear hown' hgrow hown
      go_wp2_with fail
      go_loopw [20, 22] (fun v j wr => ∃ m : Nat, k ≤ m ∧ m ≤ n ∧ j = .int .i64 m ∧ v = .slice (some ⟨NE + 1, 0, none⟩) (m + 1) (n + 1) ∧ wr.ownsRow (NE + 1) 34 1 (.slice (some ⟨NE + 1, 0, none⟩) (m + 1) (n + 1)) (m + 1) (cellsP (insF A NE k) (m + 1)) ∧ Below (NE + 1) W2 wr) (fun _ j _ => n - (intOf j).toNat)
      case atStart => exact ⟨k, Nat.le_refl _, hk2, rfl, rfl, hown2, HB2.out⟩
      case round =>
        clear hown2 HB2 HBl
        obtain ⟨m, hm1, hm2, rfl, rfl, hown, hbel⟩ := hrel
        have hGw2 : NE + 1 ≤ wr.heap.size := by have := hbel.size; rw [HS2.out] at this; exact this
        have HBl : Hid (Below (NE + 1) W2 wr) := hbel
        by_cases hlt2 : m < n
        · obtain ⟨b, off, e, _, _, c0, _⟩ := hE2.below (w' := wr) (by rw [HS2.out]; exact hbel) m (by omega)
          simp only [Option.some.injEq, Addr.mk.injEq, and_true] at e
          obtain ⟨rfl, rfl⟩ := e
          rw [Nat.zero_add] at c0
          clear hbel
          go_wp2_with (first | (at_builtin; refine wpList_append_fits _ rfl (.tmp 99) (.tmp 104) 27 rfl (NE + 1) 34 i0 1 Try.underlying27 hi hz1 (NE + 1) (m + 1) (n + 1) (cellsP (insF A NE k) (m + 1)) rfl (hown.alloc _) ⟨wr.heap.size, 0, none⟩ 1 1 [.pointer (some ⟨A m, 0, none⟩)] rfl rfl (cell_one_new _ _ _) (one_ptr _) (by omega) ?_))
          intro w5 hown' hgrow
          have hown2 : w5.ownsRow (NE + 1) 34 1 (.slice (some ⟨NE + 1, 0, none⟩) (m + 1 + 1) (n + 1)) (m + 1 + 1) (cellsP (insF A NE k) (m + 1 + 1)) := by
            rw [cellsP_succ _ (m + 1), insF_gt hm1]
            exact hown'
          have HB2 : Hid (Below (NE + 1) W2 w5) := ((HBl.out.alloc hGw2 _).grown hgrow (by simp; omega) (fun j hj => by cases hj; exact Nat.le_refl _))
          clear hown' hgrow hown
          go_wp2_with fail
          go_roundw
          case rel => exact ⟨m + 1, by omega, by omega, by go_num, rfl, hown2, HB2.out⟩
          case measure => simp [intOf]; omega
        · have hmn : m = n := by omega
          subst hmn
          have hbW : Below W2.heap.size W2 wr := by rw [HS2.out]; exact hbel
          have hI : ERow wr (some ⟨NE + 1, 0, none⟩) (m + 1) (insF A NE k) (insF nm o k) := erow_ins hk2 hE2 hne2 hbW hown
          have hE3 := hE2.below hbW
          have hR3 := hR2.below hbW
          have Hb3 : Hid (Below w.heap.size w wr) := below_trans Hb2.out hbW
          clear hbel hbW hown HBl hE2 hR2 Hb2
          go_wp2_with fail
          generalize hW : wr.alloc (.cells #[.string p, .int .u16 id, .int .i64 ver, .slice none 0 0, .slice none 0 0, .slice (some ⟨NE + 1, 0, none⟩) (m + 1) (m + 1)] 33) = W3
          obtain ⟨cq, hb4⟩ := one_pkg hW
          have hI4 := hI.below hb4
          have hE4 := hE3.below hb4
          have hR4 := hR3.below hb4
          have Hb4 : Hid (Below w.heap.size w W3) := below_trans Hb3.out hb4
          clear hW hb4 hI hE3 hR3 Hb3
          generalize wr.heap.size = Q1 at *
          refine (event_any Q1 q _ (m + 1) (m + 1) (by omega) (insF A NE k) (insF nm o k) _ cq hI4).mono ?_
          rintro e w6 ⟨rfl, rfl⟩
          clear hI4 cq
          go_wp2_with fail
          generalize hW : W3.alloc (.cells #[.string p, .int .u16 id, .int .i64 ver, .slice none 0 0, .slice none 0 0, .slice (some ⟨E, 0, none⟩) k m] 33) = W4
          obtain ⟨cq, hb5⟩ := one_pkg hW
          have hE5 := (hE4.below hb5).take k hk2
          have hR5 := hR4.below hb5
          have Hb5 : Hid (Below w.heap.size w W4) := below_trans Hb4.out hb5
          clear hW hb5 hE4 hR4 Hb4
          generalize W3.heap.size = Q2 at *
          refine (event_any Q2 q _ k m (by omega) A nm _ cq hE5).mono ?_
          rintro e w6 ⟨rfl, rfl⟩
          clear hE5 cq
          go_wp2_with fail
          refine (has_any q ao m c (by omega) nm _ hR5).mono ?_
          rintro e w6 ⟨rfl, rfl⟩
          clear hR5
          rw [same_ins]
          cases hs : same o q with
          | false =>
            have hq : (o.toList == q.toList) = false := hs
            rw [first_ins_no _ _ _ hk2, (ptr_ins_no A NE k _).1, (ptr_ins_no A NE k _).2]
            clear hs
            generalize ptr A (firstB (fun i => same (nm i) q) k) = vp
            generalize (firstB (fun i => same (nm i) q) k).isSome = bp
            generalize firstB (fun i => same (nm i) q) m = f
            cases f with
            | none =>
              simp only [ptr_none, Option.isSome_none]
              go_wp2_with fail
              go_ret
              exact ⟨rfl, Hb5.out⟩
            | some i =>
              have hps := ptr_same ⟨A i, 0, none⟩
              simp only [ptr_some, Option.isSome_some]
              go_wp2_with fail
              go_ret
              exact ⟨rfl, Hb5.out⟩
          | true =>
            have hq : (o.toList == q.toList) = true := hs
            clear hs
            cases hfp : firstB (fun i => same (nm i) q) k with
            | some i =>
              rw [first_ins_yes_some _ _ _ _ hk2 hfp]
              have hik := (firstB_some_iff hfp).1
              have hps := ptr_same ⟨A i, 0, none⟩
              simp only [ptr_some, Option.isSome_some, insF_lt hik]
              clear hfp
              generalize ptr A (firstB (fun i => same (nm i) q) m) = vf
              generalize (firstB (fun i => same (nm i) q) m).isSome = bf
              have hff : (bf != bf) = false := by cases bf <;> rfl
              go_wp2_with fail
              go_ret
              exact ⟨rfl, Hb5.out⟩
            | none =>
              rw [first_ins_yes_none _ _ _ hk2 hfp]
              have hps := ptr_same ⟨NE, 0, none⟩
              simp only [ptr_none, ptr_some, Option.isSome_some, Option.isSome_none, insF_eq]
              clear hfp
              generalize ptr A (firstB (fun i => same (nm i) q) m) = vf
              generalize (firstB (fun i => same (nm i) q) m).isSome = bf
              have hff : (bf != bf) = false := by cases bf <;> rfl
              go_wp2_with fail
              go_ret
              exact ⟨rfl, Hb5.out⟩
end Go.Proofs.Qxb6627988a
