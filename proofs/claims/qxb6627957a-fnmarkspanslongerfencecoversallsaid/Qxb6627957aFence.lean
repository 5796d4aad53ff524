import Derived.Test.Qxb6627957aMark
import Derived.Laws.IdiomStrings
namespace Go.Proofs.Qxb6627957a
open Go.RowKit

theorem Try.info5 : (Try.prog.info? 5).map (fun i => (i.zero, i.size, i.bytes)) = some (some (.int .u8 0), 1, 1) := by kernel_rfl
theorem Try.info4 : (Try.prog.info? 4).map (fun i => (i.zero, i.size, i.bytes)) = some (some (.bool false), 1, 1) := by kernel_rfl

/-- It returns a Bool. -/
def RetB (e : Ending) : Prop := ∃ r : Bool, e = .returned (.bool r)
theorem RetB.mk {e : Ending} (r : Bool) (h : e = .returned (.bool r)) : RetB e := ⟨r, h⟩

theorem zz9_any (s : ByteArray) (hs : s.size ≤ maxLen) (w : World) : Calls Try.prog 9 #[.string s] w fun e w' => RetB e ∧ w = w' := by
  unfold maxLen at hs
  by_cases h : 1048576 < s.size
  · go_enter Try.func9, Try.ntmps9
    go_wp2
    go_ret
    exact ⟨.mk false rfl, rfl⟩
  · go_enter Try.func9, Try.ntmps9
    go_wp2
    go_ret
    exact ⟨.mk true rfl, rfl⟩

/-- of the first k bytes: every stretch of backticks is at most L long; those that end at k at most r -/
def Upto (t : Nat → Bool) (k L r : Nat) : Prop :=
  (∀ a m, a + m ≤ k → (∀ j, j < m → t (a + j) = true) → m ≤ L) ∧ (∀ a m, a + m = k → (∀ j, j < m → t (a + j) = true) → m ≤ r) ∧ L ≤ k ∧ r ≤ L

theorem upto_zero (t : Nat → Bool) : Upto t 0 0 0 := ⟨fun a m h _ => by omega, fun a m h _ => by omega, Nat.le_refl _, Nat.le_refl _⟩
theorem upto_no {t : Nat → Bool} {k L r : Nat} (h : Upto t k L r) (ht : t k = false) : Upto t (k + 1) L 0 := by
  have h0 : ∀ a m, a + m = k + 1 → (∀ j, j < m → t (a + j) = true) → m ≤ 0 := by
    intro a m e hall
    cases m with
    | zero => exact Nat.le_refl _
    | succ m =>
      have := hall m (by omega)
      rw [show a + m = k by omega, ht] at this
      cases this
  refine ⟨fun a m hm hall => ?_, h0, by have := h.2.2.1; omega, Nat.zero_le _⟩
  by_cases e : a + m = k + 1
  · have := h0 a m e hall
    omega
  · exact h.1 a m (by omega) hall
theorem upto_yes {t : Nat → Bool} {k L r : Nat} (h : Upto t k L r) : Upto t (k + 1) (max L (r + 1)) (r + 1) := by
  have h0 : ∀ a m, a + m = k + 1 → (∀ j, j < m → t (a + j) = true) → m ≤ r + 1 := by
    intro a m e hall
    cases m with
    | zero => omega
    | succ m =>
      have := h.2.1 a m (by omega) (fun j hj => hall j (by omega))
      omega
  have h3 := h.2.2
  refine ⟨fun a m hm hall => ?_, h0, by omega, by omega⟩
  by_cases e : a + m = k + 1
  · have := h0 a m e hall
    omega
  · have := h.1 a m (by omega) hall
    omega

/-! ### the bytes of the fenced text -/
def bv (l : List UInt8) : List Value := l.map fun b => .int .u8 (b.toNat : Int)
theorem bv_append (x y : List UInt8) : bv (x ++ y) = bv x ++ bv y := by simp [bv]
theorem bv_length (x : List UInt8) : (bv x).length = x.length := by simp [bv]
theorem bv_one (l : List UInt8) : ∀ u ∈ bv l, u.oneCell' = true := by
  intro u hu
  obtain ⟨_, _, rfl⟩ := List.mem_map.1 hu
  rfl

def fenced (s : ByteArray) (F : Nat) : List UInt8 := List.replicate F 96 ++ [32] ++ s.data.toList ++ [32] ++ List.replicate F 96

theorem tick_list (l : List UInt8) (p : Nat) : tick ⟨l.toArray⟩ p = (l[p]? == some 96) := by
  unfold tick
  by_cases h : p < l.length
  · have h' : p < (ByteArray.mk l.toArray).size := h
    rw [dif_pos h']
    have e : (ByteArray.mk l.toArray)[p] = l[p] := rfl
    rw [e, List.getElem?_eq_getElem h, Bool.eq_iff_iff]
    simp only [beq_iff_eq, Option.some.injEq]
    constructor
    · intro h1
      exact UInt8.toNat.inj (by simpa using (by omega : l[p].toNat = 96))
    · intro h1
      rw [h1]
      rfl
  · have h' : ¬ p < (ByteArray.mk l.toArray).size := h
    rw [dif_neg h', List.getElem?_eq_none (by omega)]
    rfl
theorem tick_own (s : ByteArray) (p : Nat) : tick s p = (s.data.toList[p]? == some 96) := by
  rw [← tick_list]

theorem fenced_length (s : ByteArray) (F : Nat) : (fenced s F).length = 2 * F + 2 + s.size := by
  have : s.data.toList.length = s.size := rfl
  simp only [fenced, List.length_append, List.length_replicate, List.length_cons, List.length_nil, this]
  omega
theorem fenced_first (s : ByteArray) (F p : Nat) (h : p < F) : (fenced s F)[p]? = some 96 := by
  simp only [fenced, List.append_assoc]
  rw [List.getElem?_append_left (by simpa using h)]
  simp [h]
theorem fenced_sp0 (s : ByteArray) (F : Nat) : (fenced s F)[F]? = some 32 := by
  simp only [fenced, List.append_assoc]
  rw [List.getElem?_append_right (by simp)]
  simp
theorem fenced_mid (s : ByteArray) (F j : Nat) (h : j < s.size) : (fenced s F)[F + 1 + j]? = s.data.toList[j]? := by
  have hl : s.data.toList.length = s.size := rfl
  simp only [fenced, List.append_assoc]
  rw [List.getElem?_append_right (by simp; omega), List.getElem?_append_right (by simp; omega), List.getElem?_append_left (by simp only [List.length_replicate, List.length_cons, List.length_nil]; omega)]
  have e : F + 1 + j - (List.replicate F (96 : UInt8)).length - [(32 : UInt8)].length = j := by
    simp only [List.length_replicate, List.length_cons, List.length_nil]
    omega
  rw [e]
theorem fenced_sp1 (s : ByteArray) (F : Nat) : (fenced s F)[F + 1 + s.size]? = some 32 := by
  have hl : s.data.toList.length = s.size := rfl
  simp only [fenced, List.append_assoc]
  rw [List.getElem?_append_right (by simp; omega), List.getElem?_append_right (by simp; omega), List.getElem?_append_right (by simp only [List.length_replicate, List.length_cons, List.length_nil]; omega)]
  rw [List.getElem?_append_left (by simp only [List.length_replicate, List.length_cons, List.length_nil]; omega)]
  simp only [List.length_replicate, List.length_cons, List.length_nil, hl]
  rw [show F + 1 + s.size - F - (0 + 1) - s.size = 0 by omega]
  rfl
theorem fenced_last (s : ByteArray) (F p : Nat) (h1 : F + 2 + s.size ≤ p) (h2 : p < 2 * F + 2 + s.size) : (fenced s F)[p]? = some 96 := by
  have hl : s.data.toList.length = s.size := rfl
  have hl2 : (List.replicate F (96 : UInt8) ++ [32] ++ s.data.toList ++ [32]).length = F + 2 + s.size := by simp only [List.length_append, List.length_replicate, List.length_cons, List.length_nil, hl]; omega
  simp only [fenced]
  rw [List.getElem?_append_right (by omega), hl2, List.getElem?_replicate, if_pos (by omega)]

/-- The fenced text is one span. -/
theorem fenced_cov (s : ByteArray) (L R : Nat) (h : Upto (tick s) s.size L R) (fs : ByteArray) (hfs : fs = ⟨(fenced s (L + 1)).toArray⟩) :
    fs.size = 2 * (L + 1) + 2 + s.size ∧ ∀ p, p < fs.size → cov (runs (tick fs) fs.size 0) p = true := by
  have hsz : fs.size = 2 * (L + 1) + 2 + s.size := by
    rw [hfs, ← fenced_length]
    rfl
  refine ⟨hsz, fun p hp => ?_⟩
  have ht : ∀ p, tick fs p = ((fenced s (L + 1))[p]? == some 96) := fun p => by rw [hfs]; exact tick_list _ _
  refine fence_cov (F := L + 1) (by omega) (by omega) (fun p hp => by rw [ht, fenced_first _ _ _ hp]; rfl) (by rw [ht, fenced_sp0]; rfl) ?_ ?_ ?_ (fun p hp => tick_past p hp) p hp
  · intro a m h1 h2 hall
    by_cases hm : m = 0
    · omega
    · have ha : L + 1 + 1 ≤ a := by
        by_cases e : a = L + 1
        · have := hall 0 (by omega)
          rw [Nat.add_zero, e, ht, fenced_sp0] at this
          cases this
        · omega
      have hb : a + m ≤ L + 1 + 1 + s.size := by
        by_cases e : a + m ≤ L + 1 + 1 + s.size
        · exact e
        · have := hall (L + 1 + 1 + s.size - a) (by omega)
          rw [show a + (L + 1 + 1 + s.size - a) = L + 1 + 1 + s.size by omega, ht, fenced_sp1] at this
          cases this
      have := h.1 (a - (L + 1 + 1)) m (by omega) (fun j hj => by
        have h3 := hall j hj
        rw [ht, show a + j = L + 1 + 1 + (a - (L + 1 + 1) + j) by omega, fenced_mid _ _ _ (by omega)] at h3
        rw [tick_own]
        exact h3)
      omega
  · rw [ht, show fs.size - (L + 1) - 1 = L + 1 + 1 + s.size by omega, fenced_sp1]
    rfl
  · intro p h1 h2
    rw [ht, fenced_last _ _ _ (by omega) (by omega)]
    rfl

/-! what has been laid so far, behind names -/
def lay2 (k : Nat) : List Value := bv (List.replicate k 96)
def lay3 (s : ByteArray) (F k : Nat) : List Value := bv (List.replicate F 96 ++ [32] ++ s.data.toList.take k)
def lay4 (s : ByteArray) (F k : Nat) : List Value := bv (List.replicate F 96 ++ [32] ++ s.data.toList ++ [32] ++ List.replicate k 96)
theorem lay2_zero : lay2 0 = [] := rfl
theorem lay2_succ (k : Nat) : lay2 (k + 1) = lay2 k ++ [.int .u8 96] := by
  unfold lay2
  rw [List.replicate_succ', bv_append]
  rfl
theorem lay3_zero (s : ByteArray) (F : Nat) : lay3 s F 0 = lay2 F ++ [.int .u8 32] := by
  unfold lay3 lay2
  rw [List.take_zero, List.append_nil, bv_append]
  rfl
theorem lay3_succ (s : ByteArray) (F k : Nat) (h : k < s.size) : lay3 s F (k + 1) = lay3 s F k ++ [.int .u8 (s[k].toNat : Int)] := by
  unfold lay3
  rw [List.take_succ_eq_append_getElem (by exact h), ← List.append_assoc, bv_append]
  rfl
theorem lay4_zero (s : ByteArray) (F : Nat) : lay4 s F 0 = lay3 s F s.size ++ [.int .u8 32] := by
  unfold lay4 lay3
  rw [List.take_of_length_le (show s.data.toList.length ≤ s.size from Nat.le_refl _), List.replicate_zero, List.append_nil, bv_append]
  rfl
theorem lay4_succ (s : ByteArray) (F k : Nat) : lay4 s F (k + 1) = lay4 s F k ++ [.int .u8 96] := by
  unfold lay4
  rw [List.replicate_succ', ← List.append_assoc, bv_append]
  rfl
theorem lay4_last (s : ByteArray) (F : Nat) : lay4 s F F = bv (fenced s F) := rfl

theorem conv_own {w : World} {B n cap : Nat} {l : List UInt8} (h : w.ownsRow B 5 1 (.slice (some ⟨B, 0, none⟩) n cap) n (bv l)) (hn : l.length = n) :
    (convert 28 9 (.slice (some ⟨B, 0, none⟩) n cap)).run Try.prog w = .ok (.string ⟨l.toArray⟩) w := by
  subst hn
  exact run_convert_bytes_back w 28 9 5 ⟨B, 0, none⟩ cap l Try.underlying28 Try.underlying5 Try.underlying9 (fun j hj => h.cells (g := B) rfl j _ (by simp [bv, hj]))

set_option maxHeartbeats 2000000 in
theorem fence_any (s : ByteArray) (hs0 : s.size ≤ maxLen) (w : World) :
    Calls Try.prog 4 #[.string s] w fun e w' => e = .returned (.bool true) ∧ Below w.heap.size w w' := by
  obtain ⟨i5, hi5, hz50, hz51, hz52⟩ := info_parts Try.info5
  obtain ⟨i4, hi4, hz40, hz41, hz42⟩ := info_parts Try.info4
  go_enter Try.func4, Try.ntmps4
  go_wp2_with fail
  refine (zz9_any s hs0 _).mono ?_
  rintro e w' ⟨⟨r, rfl⟩, rfl⟩
  cases r
  · go_wp2
    go_ret
    exact ⟨rfl, Below.refl _ _⟩
  by_cases hbig : 65536 < s.size
  · unfold maxLen at hs0
    go_wp2
    go_ret
    exact ⟨rfl, Below.refl _ _⟩
  clear hs0
  go_wp2_with fail
  go_loop [3, 4, 5] (fun l r i => ∃ k L R : Nat, k ≤ s.size ∧ i = .int .i64 k ∧ l = .int .i64 L ∧ r = .int .i64 R ∧ Upto (tick s) k L R) (fun _ _ i => s.size - (intOf i).toNat)
  case atStart => exact ⟨0, 0, 0, Nat.zero_le _, rfl, rfl, rfl, upto_zero _⟩
  case round =>
    obtain ⟨k, L, R, hk, rfl, rfl, rfl, hup⟩ := hrel
    have hL := hup.2.2.1
    have hR := hup.2.2.2
    have HU : Hid (Upto (tick s) k L R) := hup
    clear hup
    by_cases hlt : k < s.size
    · cases ht : tick s k with
      | false =>
        have hq1 : ((s[k].toNat : Int) == 96) = false := by rw [tick_at hlt, ht]
        have HT : Hid (tick s k = false) := ht
        clear ht
        go_wp2_with fail
        go_round
        case rel => exact ⟨k + 1, L, 0, by omega, by go_num, rfl, rfl, upto_no HU.out HT.out⟩
        case measure => simp [intOf]; omega
      | true =>
        have hq1 : ((s[k].toNat : Int) == 96) = true := by rw [tick_at hlt, ht]
        clear ht
        by_cases hrl : L < R + 1
        · go_wp2_with fail
          go_round
          case rel => exact ⟨k + 1, R + 1, R + 1, by omega, by go_num, by go_num, by go_num, by have := upto_yes HU.out; rwa [show max L (R + 1) = R + 1 by omega] at this⟩
          case measure => simp [intOf]; omega
        · go_wp2_with fail
          go_round
          case rel => exact ⟨k + 1, L, R + 1, by omega, by go_num, rfl, by go_num, by have := upto_yes HU.out; rwa [show max L (R + 1) = L by omega] at this⟩
          case measure => simp [intOf]; omega
    · have hkn : k = s.size := by omega
      subst hkn
      go_wp2_with (first | (at_make; refine wpList_make_own _ rfl _ _ 28 rfl w.heap.size 5 i5 (.int .u8 0) 1 Try.underlying28 hi5 hz50 hz51 _ _ _ (2 * (L + 1) + 2 + s.size) rfl rfl (by omega) (by rw [hz52]; omega) (by unfold maxLen; omega) (Nat.le_refl _) ?_))
      intro w10 hown hgrow
      have hbel : Below w.heap.size w w10 := (Below.refl _ _).grown hgrow (Nat.le_refl _) (fun k hk => by cases hk)
      clear hgrow
      generalize hB : w.heap.size = B at *
      have HB : Hid (w.heap.size = B) := hB
      clear hB
      go_wp2_with fail
      -- the first fence
      go_loopw [7, 8] (fun v j wr => ∃ k : Nat, k ≤ L + 1 ∧ j = .int .i64 k ∧ v = .slice (some ⟨B, 0, none⟩) k (2 * (L + 1) + 2 + s.size) ∧ wr.ownsRow B 5 1 (.slice (some ⟨B, 0, none⟩) k (2 * (L + 1) + 2 + s.size)) k (lay2 k) ∧ Below B w wr) (fun _ j _ => L + 1 - (intOf j).toNat)
      case atStart => exact ⟨0, Nat.zero_le _, rfl, rfl, hown, hbel⟩
      case round =>
        clear hown hbel
        obtain ⟨k, hk, rfl, rfl, hown, hbel⟩ := hrel
        have hBw : B ≤ wr.heap.size := by have := hbel.size; rw [HB.out] at this; exact this
        have HBl : Hid (Below B w wr) := hbel
        clear hbel
        by_cases hlt1 : k < L + 1
        · go_wp2_with (first | (at_builtin; refine wpList_append_fits _ rfl _ _ 28 rfl B 5 i5 1 Try.underlying28 hi5 hz51 B k (2 * (L + 1) + 2 + s.size) (lay2 k) rfl (hown.alloc _) ⟨wr.heap.size, 0, none⟩ 1 1 [.int .u8 96] rfl rfl (cell_one_new _ _ _) (bv_one [96]) (by omega) ?_))
          intro w11 hown' hgrow
          have hown2 : w11.ownsRow B 5 1 (.slice (some ⟨B, 0, none⟩) (k + 1) (2 * (L + 1) + 2 + s.size)) (k + 1) (lay2 (k + 1)) := by
            rw [lay2_succ]
            exact hown'
          have HB2 : Hid (Below B w w11) := ((HBl.out.alloc hBw _).grown hgrow (by simp; omega) (fun j hj => by cases hj; exact Nat.le_refl _))
          clear hown' hgrow hown
          go_wp2_with fail
          go_roundw
          case rel => exact ⟨k + 1, by omega, by go_num, rfl, hown2, HB2.out⟩
          case measure => simp [intOf]; omega
        · have hkL : k = L + 1 := by omega
          subst hkL
          go_wp2_with (first | (at_builtin; refine wpList_append_fits _ rfl _ _ 28 rfl B 5 i5 1 Try.underlying28 hi5 hz51 B (L + 1) (2 * (L + 1) + 2 + s.size) (lay2 (L + 1)) rfl (hown.alloc _) ⟨wr.heap.size, 0, none⟩ 1 1 [.int .u8 32] rfl rfl (cell_one_new _ _ _) (bv_one [32]) (by omega) ?_))
          intro w11 hown' hgrow
          have hown2 : w11.ownsRow B 5 1 (.slice (some ⟨B, 0, none⟩) (L + 1 + 1 + 0) (2 * (L + 1) + 2 + s.size)) (L + 1 + 1 + 0) (lay3 s (L + 1) 0) := by
            rw [lay3_zero]
            exact hown'
          have HB2 : Hid (Below B w w11) := ((HBl.out.alloc hBw _).grown hgrow (by simp; omega) (fun j hj => by cases hj; exact Nat.le_refl _))
          clear hown' hgrow hown HBl
          go_wp2_with fail
          -- the line
          go_loopw [7, 9] (fun v j wr => ∃ k : Nat, k ≤ s.size ∧ j = .int .i64 k ∧ v = .slice (some ⟨B, 0, none⟩) (L + 1 + 1 + k) (2 * (L + 1) + 2 + s.size) ∧ wr.ownsRow B 5 1 (.slice (some ⟨B, 0, none⟩) (L + 1 + 1 + k) (2 * (L + 1) + 2 + s.size)) (L + 1 + 1 + k) (lay3 s (L + 1) k) ∧ Below B w wr) (fun _ j _ => s.size - (intOf j).toNat)
          case atStart => exact ⟨0, Nat.zero_le _, rfl, rfl, hown2, HB2.out⟩
          case round =>
            clear hown2 HB2
            obtain ⟨k, hk2, rfl, rfl, hown, hbel⟩ := hrel
            have hBw : B ≤ wr.heap.size := by have := hbel.size; rw [HB.out] at this; exact this
            have HBl : Hid (Below B w wr) := hbel
            clear hbel
            by_cases hlt2 : k < s.size
            · go_wp2_with (first | (at_builtin; refine wpList_append_fits _ rfl _ _ 28 rfl B 5 i5 1 Try.underlying28 hi5 hz51 B (L + 1 + 1 + k) (2 * (L + 1) + 2 + s.size) (lay3 s (L + 1) k) rfl (hown.alloc _) ⟨wr.heap.size, 0, none⟩ 1 1 [.int .u8 (s[k].toNat : Int)] rfl rfl (cell_one_new _ _ _) (bv_one [s[k]]) (by omega) ?_))
              intro w12 hown' hgrow
              have hown2 : w12.ownsRow B 5 1 (.slice (some ⟨B, 0, none⟩) (L + 1 + 1 + (k + 1)) (2 * (L + 1) + 2 + s.size)) (L + 1 + 1 + (k + 1)) (lay3 s (L + 1) (k + 1)) := by
                rw [lay3_succ s (L + 1) k hlt2]
                exact hown'
              have HB2 : Hid (Below B w w12) := ((HBl.out.alloc hBw _).grown hgrow (by simp; omega) (fun j hj => by cases hj; exact Nat.le_refl _))
              clear hown' hgrow hown
              go_wp2_with fail
              go_roundw
              case rel => exact ⟨k + 1, by omega, by go_num, rfl, hown2, HB2.out⟩
              case measure => simp [intOf]; omega
            · have hkn : k = s.size := by omega
              subst hkn
              go_wp2_with (first | (at_builtin; refine wpList_append_fits _ rfl _ _ 28 rfl B 5 i5 1 Try.underlying28 hi5 hz51 B (L + 1 + 1 + s.size) (2 * (L + 1) + 2 + s.size) (lay3 s (L + 1) s.size) rfl (hown.alloc _) ⟨wr.heap.size, 0, none⟩ 1 1 [.int .u8 32] rfl rfl (cell_one_new _ _ _) (bv_one [32]) (by omega) ?_))
              intro w12 hown' hgrow
              have hown2 : w12.ownsRow B 5 1 (.slice (some ⟨B, 0, none⟩) (L + 1 + 1 + s.size + 1 + 0) (2 * (L + 1) + 2 + s.size)) (L + 1 + 1 + s.size + 1 + 0) (lay4 s (L + 1) 0) := by
                rw [lay4_zero]
                exact hown'
              have HB2 : Hid (Below B w w12) := ((HBl.out.alloc hBw _).grown hgrow (by simp; omega) (fun j hj => by cases hj; exact Nat.le_refl _))
              clear hown' hgrow hown HBl
              go_wp2_with fail
              -- the second fence
              go_loopw [7, 10] (fun v j wr => ∃ k : Nat, k ≤ L + 1 ∧ j = .int .i64 k ∧ v = .slice (some ⟨B, 0, none⟩) (L + 1 + 1 + s.size + 1 + k) (2 * (L + 1) + 2 + s.size) ∧ wr.ownsRow B 5 1 (.slice (some ⟨B, 0, none⟩) (L + 1 + 1 + s.size + 1 + k) (2 * (L + 1) + 2 + s.size)) (L + 1 + 1 + s.size + 1 + k) (lay4 s (L + 1) k) ∧ Below B w wr) (fun _ j _ => L + 1 - (intOf j).toNat)
              case atStart => exact ⟨0, Nat.zero_le _, rfl, rfl, hown2, HB2.out⟩
              case round =>
                clear hown2 HB2
                obtain ⟨k, hk3, rfl, rfl, hown, hbel⟩ := hrel
                have hBw : B ≤ wr.heap.size := by have := hbel.size; rw [HB.out] at this; exact this
                have HBl : Hid (Below B w wr) := hbel
                clear hbel
                by_cases hlt3 : k < L + 1
                · go_wp2_with (first | (at_builtin; refine wpList_append_fits _ rfl _ _ 28 rfl B 5 i5 1 Try.underlying28 hi5 hz51 B (L + 1 + 1 + s.size + 1 + k) (2 * (L + 1) + 2 + s.size) (lay4 s (L + 1) k) rfl (hown.alloc _) ⟨wr.heap.size, 0, none⟩ 1 1 [.int .u8 96] rfl rfl (cell_one_new _ _ _) (bv_one [96]) (by omega) ?_))
                  intro w13 hown' hgrow
                  have hown2 : w13.ownsRow B 5 1 (.slice (some ⟨B, 0, none⟩) (L + 1 + 1 + s.size + 1 + (k + 1)) (2 * (L + 1) + 2 + s.size)) (L + 1 + 1 + s.size + 1 + (k + 1)) (lay4 s (L + 1) (k + 1)) := by
                    rw [lay4_succ]
                    exact hown'
                  have HB2 : Hid (Below B w w13) := ((HBl.out.alloc hBw _).grown hgrow (by simp; omega) (fun j hj => by cases hj; exact Nat.le_refl _))
                  clear hown' hgrow hown
                  go_wp2_with fail
                  go_roundw
                  case rel => exact ⟨k + 1, by omega, by go_num, rfl, hown2, HB2.out⟩
                  case measure => simp [intOf]; omega
                · have hkL : k = L + 1 := by omega
                  subst hkL
                  obtain ⟨fs, HF⟩ : ∃ fs : ByteArray, Hid (fs = ⟨(fenced s (L + 1)).toArray⟩) := ⟨_, rfl⟩
                  have hcv : (convert 28 9 (.slice (some ⟨B, 0, none⟩) (L + 1 + 1 + s.size + 1 + (L + 1)) (2 * (L + 1) + 2 + s.size))).run Try.prog wr = .ok (.string fs) wr := by
                    rw [HF.out]
                    exact conv_own hown (by rw [fenced_length]; omega)
                  obtain ⟨hfsz, hall⟩ := fenced_cov s L R HU.out fs HF.out
                  have HA : Hid (∀ p, p < fs.size → cov (runs (tick fs) fs.size 0) p = true) := hall
                  have hfs1 : fs.size ≤ 1048576 := by omega
                  have hmk := run_make_row' (P := Try.prog) 22 4 (.bool false) 1 Try.underlying22 Try.info4 rfl .i64 .i64 fs.size (by omega) (by omega)
                  have HFs : Hid (fs.size = 2 * (L + 1) + 2 + s.size) := hfsz
                  clear hall hfsz
                  clear hown
                  go_wp2_with fail
                  refine (ZZmarkSpans_any fs hfs1 wr.heap.size fs.size fs.size (Nat.le_refl _) (fun _ => false) _ (World.rowIs_made _ _ _ _)).mono ?_
                  rintro e w14 ⟨rfl, hrow, hgrow⟩
                  have hrow2 : w14.rowIs wr.heap.size 4 fs.size (fun _ => .bool true) := hrow.congr fun p hp => by rw [HA.out p hp]; rfl
                  have HB3 : Hid (Below B w w14) := (HBl.out.alloc hBw _).grown hgrow (by simp; omega) (fun j hj => by cases hj; exact hBw)
                  clear hrow hgrow HA HF hmk hcv
                  generalize wr.heap.size = G at *
                  clear HBl
                  go_wp2_with fail
                  go_loop [13] (fun j => ∃ k : Nat, k ≤ fs.size ∧ j = .int .i64 k) (fun j => fs.size - (intOf j).toNat)
                  case atStart => exact ⟨0, Nat.zero_le _, rfl⟩
                  case round =>
                    obtain ⟨k, hk4, rfl⟩ := hrel
                    by_cases hlt4 : k < fs.size
                    · have c0 := hrow2.cell hlt4
                      clear hrow2
                      go_wp2_with fail
                      go_round
                      case rel => exact ⟨k + 1, by omega, by go_num⟩
                      case measure => simp [intOf]; omega
                    · clear hrow2
                      go_wp2_with fail
                      go_ret
                      exact ⟨rfl, by rw [HB.out]; exact HB3.out⟩
end Go.Proofs.Qxb6627957a
