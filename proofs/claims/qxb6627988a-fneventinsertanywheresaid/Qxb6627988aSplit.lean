import Derived.Test.Qxb6627988aEv
import Derived.LaidEqlPtr
namespace Go.Proofs.Qxb6627988a
open Go.RowKit

theorem ERow.take {w : World} {ao : Option Addr} {n : Nat} {A : Nat → Nat} {nm : Nat → ByteArray} (h : ERow w ao n A nm) (k : Nat) (hk : k ≤ n) : ERow w ao k A nm := fun i hi => h i (by omega)
theorem ERow.drop {w : World} {E n : Nat} {A : Nat → Nat} {nm : Nat → ByteArray} (h : ERow w (some ⟨E, 0, none⟩) n A nm) (k : Nat) {ao : Option Addr} (hao : k < n → ao = some ⟨E, k, none⟩) :
    ERow w ao (n - k) (fun i => A (k + i)) (fun i => nm (k + i)) := by
  intro i hi
  obtain ⟨b, off, e, h1, h2, h3, h4⟩ := h (k + i) (by omega)
  simp only [Option.some.injEq, Addr.mk.injEq, and_true] at e
  obtain ⟨rfl, rfl⟩ := e
  exact ⟨E, k, hao (by omega), h1, h2, by rw [← Nat.zero_add (k + i)]; exact h3, h4⟩

theorem cell_below {w w' : World} {b o : Nat} {v : Value} (h : w.cell? ⟨b, o, none⟩ = some v) (hb : Below w.heap.size w w') : w'.cell? ⟨b, o, none⟩ = some v :=
  (hb.cell (World.block_lt_of_cell? w _ h)).trans h

theorem two_pkgs {w1 W : World} {p : ByteArray} {id ver : Int} {v1 v2 : Value}
    (h : (w1.alloc (.cells #[.string p, .int .u16 id, .int .i64 ver, .slice none 0 0, .slice none 0 0, v1] 33)).alloc (.cells #[.string p, .int .u16 id, .int .i64 ver, .slice none 0 0, .slice none 0 0, v2] 33) = W) :
    W.cell? ⟨w1.heap.size, 5, none⟩ = some v1 ∧ W.cell? ⟨w1.heap.size + 1, 5, none⟩ = some v2 ∧ Below w1.heap.size w1 W := by
  subst h
  refine ⟨cell_below (pkg_cell _ _ _ _ _) (below_alloc _ _), ?_, below_trans (below_alloc _ _) (below_alloc _ _)⟩
  have := pkg_cell (w1.alloc (.cells #[.string p, .int .u16 id, .int .i64 ver, .slice none 0 0, .slice none 0 0, v1] 33)) p id ver v2
  rwa [show (w1.alloc (.cells #[.string p, .int .u16 id, .int .i64 ver, .slice none 0 0, .slice none 0 0, v1] 33)).heap.size = w1.heap.size + 1 by simp] at this

theorem Try.info39 : (Try.prog.info? 39).map (fun i => (i.zero, i.size, i.bytes)) = some (some (.agg #[.string ByteArray.empty]), 1, 16) := by kernel_rfl
theorem ptr_same (a : Addr) : ∀ w, (binOp .eql 34 (.pointer (some a)) (.pointer (some a))).run Try.prog w = .ok (.bool true) w := fun w => by
  obtain ⟨j, hj, _⟩ := info_parts Try.info39
  exact run_eql_ptr_same (P := Try.prog) w a Try.underlying34 hj

set_option maxHeartbeats 4000000 in
theorem split_any (p q : ByteArray) (id ver kk : Int) (ao : Option Addr) (n c : Nat) (nm : Nat → ByteArray) (w : World) (h : SRow w ao n nm) :
    Calls Try.prog 3 #[.string p, .int .u16 id, .int .i64 ver, .slice ao n c, .string q, .int .i64 kk] w fun e w' => e = .returned (.bool true) ∧ Below w.heap.size w w' := by
  go_enter Try.func3, Try.ntmps3
  go_wp2_with fail
  refine (zz5_any p q id ver kk ao n c nm _ h).mono ?_
  rintro e w' ⟨⟨r, rfl⟩, rfl⟩
  cases r
  · go_wp2
    go_ret
    exact ⟨rfl, Below.refl _ _⟩
  by_cases hbig : 65536 < n
  · go_wp2
    go_ret
    exact ⟨rfl, Below.refl _ _⟩
  go_wp2_with fail
  refine (sizeOK_any p q _ ao n c (by omega) nm _ h).mono ?_
  rintro e w' ⟨⟨r, rfl⟩, rfl⟩
  cases r
  · go_wp2
    go_ret
    exact ⟨rfl, Below.refl _ _⟩
  by_cases hk0 : kk < 0
  · go_wp2
    go_ret
    exact ⟨rfl, Below.refl _ _⟩
  obtain ⟨k, rfl⟩ : ∃ k : Nat, kk = (k : Int) := ⟨kk.toNat, by omega⟩
  by_cases hk1 : n < k
  · go_wp2
    go_ret
    exact ⟨rfl, Below.refl _ _⟩
  have hk2 : k ≤ n := by omega
  go_wp2_with fail
  refine (build_any p id ver ao n c (by omega) nm _ h).mono ?_
  rintro e w1 ⟨PB, rfl, hPB, hp, hE, hb⟩
  have hR1 := h.below hb
  have Hb1 : Hid (Below w.heap.size w w1) := hb
  generalize (fun p => w.heap.size + 1 + p) = A at *
  clear h hb
  generalize hEE : w.heap.size = E at *
  have HE : Hid (w.heap.size = E) := hEE
  clear hEE
  obtain ⟨ao2, hao2, hD⟩ : ∃ ao2, (if n = k then some (⟨E, 0, none⟩ : Addr) else some ⟨E, k, none⟩) = ao2 ∧ ERow w1 ao2 (n - k) (fun i => A (k + i)) (fun i => nm (k + i)) := ⟨_, rfl, hE.drop k (fun h => by rw [if_neg (by omega)])⟩
  have hT := hE.take k hk2
  go_wp2_with fail
  generalize hW : (w1.alloc (.cells #[.string p, .int .u16 id, .int .i64 ver, .slice none 0 0, .slice none 0 0, .slice (some ⟨E, 0, none⟩) k n] 33)).alloc (.cells #[.string p, .int .u16 id, .int .i64 ver, .slice none 0 0, .slice none 0 0, .slice ao2 (n - k) (n - k)] 33) = W
  obtain ⟨cl, cr, hbW⟩ := two_pkgs hW
  have hpW := cell_below hp hbW
  have hEW := hE.below hbW
  have hTW := hT.below hbW
  have hDW := hD.below hbW
  have hRW := hR1.below hbW
  have HbW : Hid (Below w.heap.size w W) := below_trans (by rw [HE.out]; exact Hb1.out) hbW
  clear hW hbW hp hE hT hD hR1 Hb1 hao2
  generalize w1.heap.size = L at *
  refine (event_any PB q _ n n (by omega) A nm _ hpW hEW).mono ?_
  rintro e w2 ⟨rfl, rfl⟩
  go_wp2_with fail
  refine (event_any L q _ k n (by omega) A nm _ cl hTW).mono ?_
  rintro e w2 ⟨rfl, rfl⟩
  go_wp2_with fail
  refine (event_any (L + 1) q _ (n - k) (n - k) (by omega) _ _ _ cr hDW).mono ?_
  rintro e w2 ⟨rfl, rfl⟩
  go_wp2_with fail
  refine (has_any q ao n c (by omega) nm _ hRW).mono ?_
  rintro e w2 ⟨rfl, rfl⟩
  have hcut := first_cut (fun i => same (nm i) q) n k hk2
  cases h1 : firstB (fun i => same (nm i) q) k with
  | some i =>
    rw [h1] at hcut
    simp only at hcut
    obtain ⟨i1, i2, _⟩ := firstB_some_iff h1
    obtain ⟨_, _, _, _, _, _, hcell⟩ := hEW i (by omega)
    rw [hcut]
    simp only [ptr, Option.isSome]
    have hq : ((nm i).toList == q.toList) = true := i2
    have hps := ptr_same ⟨A i, 0, none⟩
    clear hEW hTW hDW hRW hcut h1 i2 cl cr hpW
    cases h2 : firstB (fun i => same (nm (k + i)) q) (n - k) with
    | some j =>
      clear h2
      go_wp2_with fail
      go_ret
      exact ⟨rfl, HbW.out⟩
    | none =>
      clear h2
      go_wp2_with fail
      go_ret
      exact ⟨rfl, HbW.out⟩
  | none =>
    rw [h1] at hcut
    simp only at hcut
    cases h2 : firstB (fun i => same (nm (k + i)) q) (n - k) with
    | some j =>
      rw [h2] at hcut
      simp only [Option.map] at hcut
      obtain ⟨i1, i2, _⟩ := firstB_some_iff h2
      obtain ⟨_, _, _, _, _, _, hcell⟩ := hEW (k + j) (by omega)
      rw [hcut]
      simp only [ptr, Option.isSome]
      have hq : ((nm (k + j)).toList == q.toList) = true := i2
      have hps := ptr_same ⟨A (k + j), 0, none⟩
      clear hEW hTW hDW hRW hcut h1 h2 i2 cl cr hpW
      go_wp2_with fail
      go_ret
      exact ⟨rfl, HbW.out⟩
    | none =>
      rw [h2] at hcut
      simp only [Option.map] at hcut
      rw [hcut]
      simp only [ptr, Option.isSome]
      clear hEW hTW hDW hRW hcut h1 h2 cl cr hpW
      go_wp2_with fail
      go_ret
      exact ⟨rfl, HbW.out⟩
end Go.Proofs.Qxb6627988a
