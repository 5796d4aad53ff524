import GoSem.Op.String
namespace Go.Proofs.Qxb6627919a

/-! The plain mathematics of seat b6627919a: keys, their order, counting, insertion and cutting; no Go program in sight. -/

theorem bytesLess_lt : ∀ (x y : List UInt8), Op.bytesLess x y = decide (x < y)
  | [], [] => by simp [Op.bytesLess]
  | _ :: _, [] => by simp [Op.bytesLess]
  | [], _ :: _ => by simp [Op.bytesLess]
  | a :: x, b :: y => by
    rw [Op.bytesLess, bytesLess_lt x y]
    simp only [List.cons_lt_cons_iff]
    by_cases h1 : a < b <;> by_cases h2 : a = b <;> by_cases h3 : x < y <;> simp [h1, h2, h3]

/-- The order of keys, as the Go text reckons it. -/
def keyLt (a b : Int × ByteArray) : Bool := decide (a.1 < b.1) || (a.1 == b.1 && Op.bytesLess a.2.toList b.2.toList)
def keySame (a b : Int × ByteArray) : Bool := a.1 == b.1 && a.2.toList == b.2.toList

theorem keyLt_iff (a b : Int × ByteArray) : keyLt a b = true ↔ a.1 < b.1 ∨ (a.1 = b.1 ∧ a.2.toList < b.2.toList) := by
  simp [keyLt, bytesLess_lt]
theorem keySame_iff (a b : Int × ByteArray) : keySame a b = true ↔ a.1 = b.1 ∧ a.2.toList = b.2.toList := by
  simp [keySame]
theorem keyLt_false (a b : Int × ByteArray) : keyLt a b = false ↔ b.1 < a.1 ∨ (a.1 = b.1 ∧ b.2.toList ≤ a.2.toList) := by
  rw [← Bool.not_eq_true, keyLt_iff]
  constructor
  · intro h
    by_cases h1 : b.1 < a.1
    · exact .inl h1
    · have e : a.1 = b.1 := by
        have : ¬ a.1 < b.1 := fun h2 => h (.inl h2)
        omega
      exact .inr ⟨e, List.not_lt.1 fun h2 => h (.inr ⟨e, h2⟩)⟩
  · rintro (h | ⟨h, h2⟩) (g | ⟨g, g2⟩)
    · omega
    · omega
    · omega
    · exact List.not_lt.2 h2 g2

theorem keyLt_irrefl (a : Int × ByteArray) : keyLt a a = false := (keyLt_false a a).2 (.inr ⟨rfl, List.le_refl _⟩)

/-- a ≤ b < c gives a < c. -/
theorem le_lt {a b c : Int × ByteArray} (h : keyLt b a = false) (k : keyLt b c = true) : keyLt a c = true := by
  rw [keyLt_false] at h
  rw [keyLt_iff] at k ⊢
  rcases h with h | ⟨h, h2⟩ <;> rcases k with k | ⟨k, k2⟩
  · exact .inl (by omega)
  · exact .inl (by omega)
  · exact .inl (by omega)
  · exact .inr ⟨by omega, List.lt_of_le_of_lt h2 k2⟩

/-- a ≤ b ≤ c gives a ≤ c. -/
theorem le_le {a b c : Int × ByteArray} (h : keyLt b a = false) (k : keyLt c b = false) : keyLt c a = false := by
  cases hc : keyLt c a with
  | false => rfl
  | true =>
    have := le_lt k (le_lt (keyLt_irrefl _) hc)
    rw [h] at this
    cases this

/-- neither is less: they are the same. -/
theorem same_of {a b : Int × ByteArray} (h : keyLt a b = false) (k : keyLt b a = false) : keySame a b = true := by
  rw [keyLt_false] at h k
  rw [keySame_iff]
  rcases h with h | ⟨h, h2⟩ <;> rcases k with k | ⟨k, k2⟩
  · omega
  · omega
  · omega
  · exact ⟨h, List.le_antisymm k2 h2⟩

theorem same_not_lt {a b : Int × ByteArray} (h : keySame a b = true) : keyLt a b = false ∧ keyLt b a = false := by
  rw [keySame_iff] at h
  rw [keyLt_false, keyLt_false]
  exact ⟨.inr ⟨h.1, by rw [h.2]; exact List.le_refl _⟩, .inr ⟨h.1.symm, by rw [h.2]; exact List.le_refl _⟩⟩

theorem keySame_refl (a : Int × ByteArray) : keySame a a = true := (keySame_iff a a).2 ⟨rfl, rfl⟩

/-! ### lists of keys -/
def key (ks : List (Int × ByteArray)) (i : Nat) : Int × ByteArray := ks.getD i (0, ByteArray.empty)
def sortedB (ks : List (Int × ByteArray)) : Bool := (List.range ks.length).all fun i => i == 0 || !keyLt (key ks i) (key ks (i - 1))

theorem sorted_no {ks : List (Int × ByteArray)} {k : Nat} (h1 : 1 ≤ k) (hk : k < ks.length) (h : keyLt (key ks k) (key ks (k - 1)) = true) : sortedB ks = false := by
  unfold sortedB
  rw [List.all_eq_false]
  exact ⟨k, by simp [hk], by simp [h]; omega⟩
theorem sorted_yes {ks : List (Int × ByteArray)} (h : ∀ j, 1 ≤ j → j < ks.length → keyLt (key ks j) (key ks (j - 1)) = false) : sortedB ks = true := by
  unfold sortedB
  rw [List.all_eq_true]
  intro i hi
  simp at hi
  by_cases h0 : i = 0
  · simp [h0]
  · simp [h i (by omega) hi]
theorem sorted_step {ks : List (Int × ByteArray)} (h : sortedB ks = true) (j : Nat) (h1 : 1 ≤ j) (hj : j < ks.length) : keyLt (key ks j) (key ks (j - 1)) = false := by
  unfold sortedB at h
  rw [List.all_eq_true] at h
  have := h j (by simp [hj])
  simp at this
  rcases this with h0 | h0
  · omega
  · exact h0
theorem sorted_le {ks : List (Int × ByteArray)} (h : sortedB ks = true) (i j : Nat) (hij : i ≤ j) (hj : j < ks.length) : keyLt (key ks j) (key ks i) = false := by
  induction j with
  | zero =>
    have : i = 0 := by omega
    subst this
    exact keyLt_irrefl _
  | succ j ih =>
    by_cases e : i = j + 1
    · subst e
      exact keyLt_irrefl _
    · exact le_le (ih (by omega) (by omega)) (sorted_step h (j + 1) (by omega) hj)

/-- How many of the first n keys are less than x. -/
def cnt (ks : List (Int × ByteArray)) (x : Int × ByteArray) : Nat → Nat
  | 0 => 0
  | n + 1 => cnt ks x n + if keyLt (key ks n) x then 1 else 0
theorem cnt_le (ks : List (Int × ByteArray)) (x : Int × ByteArray) (n : Nat) : cnt ks x n ≤ n := by
  induction n with
  | zero => simp [cnt]
  | succ n ih => simp only [cnt]; split <;> omega
theorem cnt_hit {ks : List (Int × ByteArray)} {x : Int × ByteArray} {n : Nat} (h : keyLt (key ks n) x = true) : cnt ks x (n + 1) = cnt ks x n + 1 := by simp [cnt, h]
theorem cnt_miss {ks : List (Int × ByteArray)} {x : Int × ByteArray} {n : Nat} (h : keyLt (key ks n) x = false) : cnt ks x (n + 1) = cnt ks x n := by simp [cnt, h]
theorem cnt_all {ks : List (Int × ByteArray)} {x : Int × ByteArray} (lo : Nat) (h : ∀ j, j < lo → keyLt (key ks j) x = true) : cnt ks x lo = lo := by
  induction lo with
  | zero => rfl
  | succ n ih => rw [cnt_hit (h n (by omega)), ih fun j hj => h j (by omega)]
theorem cnt_none {ks : List (Int × ByteArray)} {x : Int × ByteArray} (lo n : Nat) (hn : lo ≤ n) (h : ∀ j, lo ≤ j → j < n → keyLt (key ks j) x = false) : cnt ks x n = cnt ks x lo := by
  induction n with
  | zero => have : lo = 0 := by omega
            rw [this]
  | succ n ih =>
    by_cases e : lo = n + 1
    · rw [e]
    · rw [cnt_miss (h n (by omega) (by omega)), ih (by omega) fun j h1 h2 => h j h1 (by omega)]

/-- Does one of the first n keys equal x? -/
def anyB (ks : List (Int × ByteArray)) (x : Int × ByteArray) (n : Nat) : Bool := (List.range n).any fun j => keySame (key ks j) x
theorem any_yes {ks : List (Int × ByteArray)} {x : Int × ByteArray} {n j : Nat} (hj : j < n) (h : keySame (key ks j) x = true) : anyB ks x n = true := by
  unfold anyB
  rw [List.any_eq_true]
  exact ⟨j, by simp [hj], h⟩
theorem any_no {ks : List (Int × ByteArray)} {x : Int × ByteArray} {n : Nat} (h : ∀ j, j < n → keySame (key ks j) x = false) : anyB ks x n = false := by
  unfold anyB
  rw [List.any_eq_false]
  intro j hj
  simp at hj
  simp [h j hj]
theorem any_iff {ks : List (Int × ByteArray)} {x : Int × ByteArray} {n : Nat} : anyB ks x n = true ↔ ∃ j, j < n ∧ keySame (key ks j) x = true := by
  unfold anyB
  rw [List.any_eq_true]
  constructor
  · rintro ⟨j, hj, h⟩
    exact ⟨j, by simpa using hj, h⟩
  · rintro ⟨j, hj, h⟩
    exact ⟨j, by simpa using hj, h⟩

/-- Where the search ends. -/
def Ends (ks : List (Int × ByteArray)) (x : Int × ByteArray) (lo : Nat) : Prop :=
  lo ≤ ks.length ∧ (∀ j, j < lo → keyLt (key ks j) x = true) ∧ ∀ j, lo ≤ j → j < ks.length → keyLt (key ks j) x = false

theorem Ends.cnt {ks : List (Int × ByteArray)} {x : Int × ByteArray} {lo : Nat} (h : Ends ks x lo) : cnt ks x ks.length = lo := by
  rw [cnt_none lo ks.length h.1 h.2.2, cnt_all lo h.2.1]
theorem Ends.any {ks : List (Int × ByteArray)} {x : Int × ByteArray} {lo : Nat} (hs : sortedB ks = true) (h : Ends ks x lo) : anyB ks x ks.length = (decide (lo < ks.length) && keySame (key ks lo) x) := by
  rw [Bool.eq_iff_iff, any_iff]
  simp only [Bool.and_eq_true, decide_eq_true_eq]
  constructor
  · rintro ⟨j, hj, he⟩
    have hl : lo ≤ j := by
      by_cases hlt : j < lo
      · have := h.2.1 j hlt
        rw [(same_not_lt he).1] at this
        cases this
      · omega
    refine ⟨by omega, same_of (h.2.2 lo (by omega) (by omega)) ?_⟩
    -- x ≤ key lo: key lo ≤ key j = x  and key lo is not less than x
    cases hc : keyLt x (key ks lo) with
    | false => rfl
    | true =>
      -- x < key lo ≤ key j, but key j is not greater than x
      have h1 : keyLt (key ks j) (key ks lo) = false := sorted_le hs lo j hl hj
      have h2 := le_lt (same_not_lt he).2 (le_lt (keyLt_irrefl x) hc)
      rw [h1] at h2
      cases h2
  · rintro ⟨h1, h2⟩
    exact ⟨lo, h1, h2⟩
theorem ends_cnt {ks : List (Int × ByteArray)} (hs : sortedB ks = true) (x : Int × ByteArray) : Ends ks x (cnt ks x ks.length) := by
  -- the first place that is not less
  have ex : ∀ n, n ≤ ks.length → ∃ lo, lo ≤ n ∧ (∀ j, j < lo → keyLt (key ks j) x = true) ∧ ∀ j, lo ≤ j → j < n → keyLt (key ks j) x = false := by
    intro n
    induction n with
    | zero => intro _; exact ⟨0, by omega, fun j hj => by omega, fun j _ hj => by omega⟩
    | succ n ih =>
      intro hn
      obtain ⟨lo, h1, h2, h3⟩ := ih (by omega)
      cases hc : keyLt (key ks n) x with
      | false =>
        refine ⟨lo, by omega, h2, fun j hj hj' => ?_⟩
        by_cases e : j = n
        · rw [e]; exact hc
        · exact h3 j hj (by omega)
      | true =>
        refine ⟨n + 1, by omega, fun j hj => ?_, fun j _ hj' => by omega⟩
        exact le_lt (sorted_le hs j n (by omega) (by omega)) hc
  obtain ⟨lo, h1, h2, h3⟩ := ex ks.length (Nat.le_refl _)
  have he : Ends ks x lo := ⟨h1, h2, h3⟩
  rw [he.cnt]
  exact he

/-! ### insertion -/
theorem key_take {ks : List (Int × ByteArray)} {c j : Nat} (h : j < c) : key (ks.take c) j = key ks j := by
  simp only [key, List.getD, List.getElem?_take, h, if_true]
theorem key_drop {ks : List (Int × ByteArray)} {c j : Nat} : key (ks.drop c) j = key ks (c + j) := by
  simp only [key, List.getD, List.getElem?_drop]
theorem key_append_left {as bs : List (Int × ByteArray)} {j : Nat} (h : j < as.length) : key (as ++ bs) j = key as j := by
  simp only [key, List.getD, List.getElem?_append_left h]
theorem key_append_right {as bs : List (Int × ByteArray)} {j : Nat} (h : as.length ≤ j) : key (as ++ bs) j = key bs (j - as.length) := by
  simp only [key, List.getD, List.getElem?_append_right h]
theorem key_cons_zero {x : Int × ByteArray} {bs : List (Int × ByteArray)} : key (x :: bs) 0 = x := rfl
theorem key_cons_succ {x : Int × ByteArray} {bs : List (Int × ByteArray)} {j : Nat} : key (x :: bs) (j + 1) = key bs j := rfl

def insAt (ks : List (Int × ByteArray)) (x : Int × ByteArray) (i : Nat) : List (Int × ByteArray) := ks.take i ++ x :: ks.drop i

theorem insAt_length {ks : List (Int × ByteArray)} {x : Int × ByteArray} {i : Nat} (h : i ≤ ks.length) : (insAt ks x i).length = ks.length + 1 := by
  simp [insAt]; omega
theorem key_insAt_lt {ks : List (Int × ByteArray)} {x : Int × ByteArray} {i j : Nat} (h : i ≤ ks.length) (hj : j < i) : key (insAt ks x i) j = key ks j := by
  rw [insAt, key_append_left (by simp; omega), key_take hj]
theorem key_insAt_eq {ks : List (Int × ByteArray)} {x : Int × ByteArray} {i : Nat} (h : i ≤ ks.length) : key (insAt ks x i) i = x := by
  have e : (ks.take i).length = i := by simp; omega
  rw [insAt, key_append_right (by omega), e, Nat.sub_self, key_cons_zero]
theorem key_insAt_gt {ks : List (Int × ByteArray)} {x : Int × ByteArray} {i j : Nat} (h : i ≤ ks.length) (hj : i ≤ j) : key (insAt ks x i) (j + 1) = key ks j := by
  have e : (ks.take i).length = i := by simp; omega
  rw [insAt, key_append_right (by omega), e, show j + 1 - i = (j - i) + 1 by omega, key_cons_succ, key_drop, show i + (j - i) = j by omega]

/-- x < y gives not y < x. -/
theorem lt_asymm {a b : Int × ByteArray} (h : keyLt a b = true) : keyLt b a = false := by
  cases hc : keyLt b a with
  | false => rfl
  | true =>
    have := le_lt (le_le (keyLt_irrefl a) (keyLt_irrefl a)) h
    rw [keyLt_iff] at h hc
    rcases h with h | ⟨h, h2⟩ <;> rcases hc with k | ⟨k, k2⟩
    · omega
    · omega
    · omega
    · exact absurd (List.lt_trans h2 k2) (List.lt_irrefl _)

theorem ins_sorted {ks : List (Int × ByteArray)} (hs : sortedB ks = true) {x : Int × ByteArray} {i : Nat} (h : Ends ks x i) : sortedB (insAt ks x i) = true := by
  refine sorted_yes fun j h1 hj => ?_
  rw [insAt_length h.1] at hj
  have hil := h.1
  by_cases c1 : j < i
  · rw [key_insAt_lt h.1 c1, key_insAt_lt h.1 (by omega)]
    exact sorted_step hs j h1 (by omega)
  · by_cases c2 : j = i
    · subst c2
      rw [key_insAt_eq h.1, key_insAt_lt h.1 (by omega)]
      exact lt_asymm (h.2.1 (j - 1) (by omega))
    · obtain ⟨m, rfl⟩ : ∃ m, j = m + 1 := ⟨j - 1, by omega⟩
      rw [key_insAt_gt h.1 (by omega), Nat.add_sub_cancel]
      by_cases c3 : m = i
      · subst c3
        rw [key_insAt_eq h.1]
        exact h.2.2 m (Nat.le_refl _) (by omega)
      · obtain ⟨m', rfl⟩ : ∃ m', m = m' + 1 := ⟨m - 1, by omega⟩
        rw [key_insAt_gt h.1 (by omega)]
        exact sorted_step hs (m' + 1) (by omega) (by omega)

theorem ins_ends {ks : List (Int × ByteArray)} {x : Int × ByteArray} {i : Nat} (h : Ends ks x i) : Ends (insAt ks x i) x i := by
  refine ⟨by rw [insAt_length h.1]; have := h.1; omega, fun j hj => by rw [key_insAt_lt h.1 hj]; exact h.2.1 j hj, fun j hj hj' => ?_⟩
  rw [insAt_length h.1] at hj'
  by_cases e : j = i
  · subst e
    rw [key_insAt_eq h.1]
    exact keyLt_irrefl x
  · obtain ⟨m, rfl⟩ : ∃ m, j = m + 1 := ⟨j - 1, by omega⟩
    rw [key_insAt_gt h.1 (by omega)]
    exact h.2.2 m (by omega) (by omega)

/-- THE FIRST LAW, plainly. -/
theorem round_trip {ks : List (Int × ByteArray)} (hs : sortedB ks = true) (x : Int × ByteArray) :
    sortedB (insAt ks x (cnt ks x ks.length)) = true ∧ cnt (insAt ks x (cnt ks x ks.length)) x (insAt ks x (cnt ks x ks.length)).length = cnt ks x ks.length ∧
      anyB (insAt ks x (cnt ks x ks.length)) x (insAt ks x (cnt ks x ks.length)).length = true := by
  have h := ends_cnt hs x
  refine ⟨ins_sorted hs h, (ins_ends h).cnt, ?_⟩
  refine any_yes (j := cnt ks x ks.length) ?_ ?_
  · rw [insAt_length h.1]; have := h.1; omega
  · rw [key_insAt_eq h.1]; exact keySame_refl x

/-! ### cutting -/
theorem take_sorted {ks : List (Int × ByteArray)} (hs : sortedB ks = true) (c : Nat) : sortedB (ks.take c) = true := by
  refine sorted_yes fun j h1 hj => ?_
  simp at hj
  rw [key_take (by omega), key_take (by omega)]
  exact sorted_step hs j h1 (by omega)
theorem drop_sorted {ks : List (Int × ByteArray)} (hs : sortedB ks = true) (c : Nat) : sortedB (ks.drop c) = true := by
  refine sorted_yes fun j h1 hj => ?_
  simp at hj
  rw [key_drop, key_drop]
  have := sorted_step hs (c + j) (by omega) (by omega)
  rwa [show c + j - 1 = c + (j - 1) by omega] at this
theorem cnt_take (ks : List (Int × ByteArray)) (x : Int × ByteArray) (c n : Nat) (h : n ≤ c) : cnt (ks.take c) x n = cnt ks x n := by
  induction n with
  | zero => rfl
  | succ n ih => simp only [cnt]; rw [ih (by omega), key_take (by omega)]
theorem cnt_add (ks : List (Int × ByteArray)) (x : Int × ByteArray) (c n : Nat) : cnt ks x (c + n) = cnt ks x c + cnt (ks.drop c) x n := by
  induction n with
  | zero => rfl
  | succ n ih => rw [show c + (n + 1) = (c + n) + 1 by omega]; simp only [cnt]; rw [ih, key_drop]; omega
theorem any_cut (ks : List (Int × ByteArray)) (x : Int × ByteArray) (c : Nat) (h : c ≤ ks.length) : anyB ks x ks.length = (anyB (ks.take c) x (ks.take c).length || anyB (ks.drop c) x (ks.drop c).length) := by
  rw [Bool.eq_iff_iff, Bool.or_eq_true, any_iff, any_iff, any_iff]
  constructor
  · rintro ⟨j, hj, he⟩
    by_cases hc : j < c
    · exact .inl ⟨j, by simp; omega, by rw [key_take hc]; exact he⟩
    · exact .inr ⟨j - c, by simp; omega, by rw [key_drop, show c + (j - c) = j by omega]; exact he⟩
  · rintro (⟨j, hj, he⟩ | ⟨j, hj, he⟩)
    · simp at hj
      rw [key_take (by omega)] at he
      exact ⟨j, by omega, he⟩
    · simp at hj
      rw [key_drop] at he
      exact ⟨c + j, by omega, he⟩

/-- THE SECOND LAW, plainly. -/
theorem cut_law (ks : List (Int × ByteArray)) (x : Int × ByteArray) (c : Nat) (h : c ≤ ks.length) :
    cnt ks x ks.length = cnt (ks.take c) x (ks.take c).length + cnt (ks.drop c) x (ks.drop c).length := by
  have e1 : (ks.take c).length = c := by simp; omega
  have e2 : (ks.drop c).length = ks.length - c := by simp
  rw [e1, e2, cnt_take _ _ _ _ (Nat.le_refl _), ← cnt_add, show c + (ks.length - c) = ks.length by omega]

end Go.Proofs.Qxb6627919a
