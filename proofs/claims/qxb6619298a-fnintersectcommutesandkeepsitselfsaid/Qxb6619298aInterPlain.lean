/-
  Seat b6619298a: plain laws on ascending lists of numbers and what they share; nothing of the program.
-/
namespace Lode

/-- Every number is smaller than the next ones. -/
def Asc (xs : List Int) : Prop := ∀ i j, i < j → j < xs.length → xs.getD i 0 < xs.getD j 0
/-- The numbers of xs that ys holds too, in xs's order. -/
def inter (xs ys : List Int) : List Int := xs.filter fun x => decide (x ∈ ys)

theorem mem_getD {xs : List Int} {i : Nat} (h : i < xs.length) : xs.getD i 0 ∈ xs := by
  rw [List.getD, List.getElem?_eq_getElem h]
  exact List.getElem_mem h
theorem getD_of_mem {xs : List Int} {x : Int} (h : x ∈ xs) : ∃ i, i < xs.length ∧ xs.getD i 0 = x := by
  obtain ⟨i, hi, e⟩ := List.mem_iff_getElem.1 h
  exact ⟨i, hi, by rw [List.getD, List.getElem?_eq_getElem hi]; exact e⟩
theorem take_getD (xs : List Int) {k : Nat} (h : k < xs.length) : xs.take (k + 1) = xs.take k ++ [xs.getD k 0] := by
  rw [List.take_succ_eq_append_getElem h, List.getD, List.getElem?_eq_getElem h]
  rfl

/-- Adjacent numbers ascend: then all do. -/
theorem asc_of_next {xs : List Int} (h : ∀ k, k + 1 < xs.length → xs.getD k 0 < xs.getD (k + 1) 0) : Asc xs := by
  intro i j hij hj
  induction j with
  | zero => omega
  | succ j ih =>
    by_cases e : i = j
    · subst e; exact h i hj
    · have h1 := ih (by omega) (by omega)
      have h2 := h j hj
      omega

/-- Where the two walks stand: i numbers of xs and j of ys are done; outs is what they share so far. -/
def InterAt (xs ys : List Int) (i j : Nat) (outs : List Int) : Prop :=
  outs = inter (xs.take i) ys ∧ ∀ s, s < j → ∀ t, i ≤ t → t < xs.length → ys.getD s 0 < xs.getD t 0

theorem interAt_zero (xs ys : List Int) : InterAt xs ys 0 0 [] := ⟨by simp [inter], fun s hs => absurd hs (Nat.not_lt_zero _)⟩
theorem InterAt.length {xs ys : List Int} {i j : Nat} {outs : List Int} (h : InterAt xs ys i j outs) : outs.length ≤ i := by
  rw [h.1]
  have h1 := List.length_filter_le (fun x => decide (x ∈ ys)) (xs.take i)
  have h2 : (xs.take i).length ≤ i := List.length_take_le _ _
  unfold inter
  omega
theorem inter_snoc (xs ys : List Int) (x : Int) : inter (xs ++ [x]) ys = if x ∈ ys then inter xs ys ++ [x] else inter xs ys := by
  unfold inter
  rw [List.filter_append]
  by_cases h : x ∈ ys <;> simp [h]
theorem InterAt.less {xs ys : List Int} {i j : Nat} {outs : List Int} (h : InterAt xs ys i j outs) (hy : Asc ys) (hi : i < xs.length) (hj : j < ys.length) (hlt : xs.getD i 0 < ys.getD j 0) : InterAt xs ys (i + 1) j outs := by
  refine ⟨?_, fun s hs t h1 h2 => h.2 s hs t (by omega) h2⟩
  rw [take_getD xs hi, inter_snoc, if_neg, ← h.1]
  intro hm
  obtain ⟨s, hs, e⟩ := getD_of_mem hm
  by_cases hsj : s < j
  · have := h.2 s hsj i (Nat.le_refl _) hi
    omega
  · by_cases e2 : s = j
    · subst e2; omega
    · have := hy j s (by omega) hs
      omega
theorem InterAt.more {xs ys : List Int} {i j : Nat} {outs : List Int} (h : InterAt xs ys i j outs) (hx : Asc xs) (hlt : ys.getD j 0 < xs.getD i 0) : InterAt xs ys i (j + 1) outs := by
  refine ⟨h.1, fun s hs t h1 h2 => ?_⟩
  by_cases e : s = j
  · subst e
    by_cases e2 : i = t
    · subst e2; exact hlt
    · have := hx i t (by omega) h2
      omega
  · exact h.2 s (by omega) t h1 h2
theorem InterAt.same {xs ys : List Int} {i j : Nat} {outs : List Int} (h : InterAt xs ys i j outs) (hx : Asc xs) (hi : i < xs.length) (hj : j < ys.length) (he : xs.getD i 0 = ys.getD j 0) : InterAt xs ys (i + 1) (j + 1) (outs ++ [xs.getD i 0]) := by
  refine ⟨?_, fun s hs t h1 h2 => ?_⟩
  · rw [take_getD xs hi, inter_snoc, if_pos, ← h.1]
    rw [he]
    exact mem_getD hj
  · by_cases e : s = j
    · subst e
      rw [← he]
      exact hx i t (by omega) h2
    · exact h.2 s (by omega) t (by omega) h2
theorem InterAt.done {xs ys : List Int} {i j : Nat} {outs : List Int} (h : InterAt xs ys i j outs) (hi : i ≤ xs.length) (hd : i = xs.length ∨ j = ys.length) : outs = inter xs ys := by
  rcases hd with e | e
  · rw [h.1, e, List.take_length]
  · have hsplit : inter xs ys = inter (xs.take i) ys ++ inter (xs.drop i) ys := by
      unfold inter
      rw [← List.filter_append, List.take_append_drop]
    rw [h.1, hsplit]
    have : (xs.drop i).filter (fun x => decide (x ∈ ys)) = [] := by
      rw [List.filter_eq_nil_iff]
      intro x hx hm
      rw [decide_eq_true_eq] at hm
      obtain ⟨s, hs, e2⟩ := getD_of_mem hm
      obtain ⟨t, ht, e3⟩ := List.mem_iff_getElem.1 hx
      rw [List.getElem_drop] at e3
      rw [List.length_drop] at ht
      have := h.2 s (by omega) (i + t) (by omega) (by omega)
      rw [List.getD, List.getD, List.getElem?_eq_getElem (show i + t < xs.length by omega), Option.getD_some, e3, ← List.getD, e2] at this
      omega
    rw [show inter (xs.drop i) ys = [] from this, List.append_nil]

theorem mem_inter {xs ys : List Int} {x : Int} : x ∈ inter xs ys ↔ x ∈ xs ∧ x ∈ ys := by simp [inter]

theorem asc_iff {xs : List Int} : Asc xs ↔ xs.Pairwise (· < ·) := by
  rw [List.pairwise_iff_getElem]
  constructor
  · intro h i j hi hj hij
    have := h i j hij hj
    rw [List.getD, List.getD, List.getElem?_eq_getElem hi, List.getElem?_eq_getElem hj] at this
    exact this
  · intro h i j hij hj
    have hi : i < xs.length := by omega
    rw [List.getD, List.getD, List.getElem?_eq_getElem hi, List.getElem?_eq_getElem hj]
    exact h i j hi hj hij
theorem asc_inter {xs : List Int} (h : Asc xs) (ys : List Int) : Asc (inter xs ys) := by
  rw [asc_iff] at h ⊢
  exact h.filter _

/-- Two ascending lists of the same numbers are one. -/
theorem asc_ext : ∀ {xs ys : List Int}, xs.Pairwise (· < ·) → ys.Pairwise (· < ·) → (∀ x, x ∈ xs ↔ x ∈ ys) → xs = ys
  | [], [], _, _, _ => rfl
  | [], y :: r, _, _, h => by have := (h y).2 (by simp); simp at this
  | x :: r, [], _, _, h => by have := (h x).1 (by simp); simp at this
  | x :: r, y :: s, hx, hy, h => by
    obtain ⟨hx1, hx2⟩ := List.pairwise_cons.1 hx
    obtain ⟨hy1, hy2⟩ := List.pairwise_cons.1 hy
    have hxy : x = y := by
      rcases List.mem_cons.1 ((h x).1 (by simp)) with e | e
      · exact e
      · rcases List.mem_cons.1 ((h y).2 (by simp)) with e2 | e2
        · exact e2.symm
        · have a1 := hx1 y e2
          have a2 := hy1 x e
          omega
    subst hxy
    have hr : r = s := asc_ext hx2 hy2 (fun z => by
      have hz := h z
      simp only [List.mem_cons] at hz
      constructor
      · intro hm
        rcases hz.1 (.inr hm) with e | e
        · have := hx1 z hm; omega
        · exact e
      · intro hm
        rcases hz.2 (.inr hm) with e | e
        · have := hy1 z hm; omega
        · exact e)
    rw [hr]
theorem inter_comm {xs ys : List Int} (hx : Asc xs) (hy : Asc ys) : inter xs ys = inter ys xs :=
  asc_ext (asc_iff.1 (asc_inter hx ys)) (asc_iff.1 (asc_inter hy xs)) (fun x => by rw [mem_inter, mem_inter]; exact And.comm)
theorem inter_self (xs : List Int) : inter xs xs = xs := by
  unfold inter
  rw [List.filter_eq_self]
  intro x hx
  simpa using hx
theorem inter_back (xs ys : List Int) : inter (inter xs ys) xs = inter xs ys := by
  rw [inter, List.filter_eq_self]
  intro x hx
  simpa using (mem_inter.1 hx).1

/-! ### the search -/
/-- All before l are smaller than x, all from h on are not. -/
def Between (ys : List Int) (x : Int) (l h : Nat) : Prop := (∀ t, t < l → ys.getD t 0 < x) ∧ ∀ t, h ≤ t → t < ys.length → x ≤ ys.getD t 0
theorem between_start (ys : List Int) (x : Int) : Between ys x 0 ys.length := ⟨fun t ht => absurd ht (Nat.not_lt_zero _), fun t h1 h2 => by omega⟩
theorem Between.up {ys : List Int} {x : Int} {l h m : Nat} (hb : Between ys x l h) (hy : Asc ys) (hm : m < ys.length) (hlt : ys.getD m 0 < x) : Between ys x (m + 1) h := by
  refine ⟨fun t ht => ?_, hb.2⟩
  by_cases e : t = m
  · subst e; exact hlt
  · have := hy t m (by omega) hm
    omega
theorem Between.down {ys : List Int} {x : Int} {l h m : Nat} (hb : Between ys x l h) (hy : Asc ys) (hle : x ≤ ys.getD m 0) : Between ys x l m := by
  refine ⟨hb.1, fun t h1 h2 => ?_⟩
  by_cases e : m = t
  · subst e; exact hle
  · have := hy m t (by omega) h2
    omega
theorem Between.out {ys : List Int} {x : Int} {l : Nat} (hb : Between ys x l l) (hl : ys.length ≤ l) : x ∉ ys := by
  intro hm
  obtain ⟨t, ht, e⟩ := getD_of_mem hm
  have := hb.1 t (by omega)
  omega
theorem Between.no {ys : List Int} {x : Int} {l : Nat} (hb : Between ys x l l) (hy : Asc ys) (hl : l < ys.length) (hne : ys.getD l 0 ≠ x) : x ∉ ys := by
  intro hm
  obtain ⟨t, ht, e⟩ := getD_of_mem hm
  by_cases h1 : t < l
  · have := hb.1 t h1
    omega
  · by_cases h2 : t = l
    · subst h2; exact hne e
    · have h3 := hy l t (by omega) ht
      have h4 := hb.2 l (Nat.le_refl _) hl
      omega

/-! ### the filter, walked -/
/-- How many of the first k of xs ys holds. -/
def cnt (xs ys : List Int) (k : Nat) : Nat := (inter (xs.take k) ys).length
theorem cnt_le (xs ys : List Int) (k : Nat) : cnt xs ys k ≤ k := by
  have h1 := List.length_filter_le (fun x => decide (x ∈ ys)) (xs.take k)
  have h2 : (xs.take k).length ≤ k := List.length_take_le _ _
  unfold cnt inter
  omega
theorem cnt_hit {xs ys : List Int} {k : Nat} (hk : k < xs.length) (hm : xs.getD k 0 ∈ ys) : cnt xs ys (k + 1) = cnt xs ys k + 1 := by
  unfold cnt
  rw [take_getD xs hk, inter_snoc, if_pos hm]
  simp
theorem cnt_miss {xs ys : List Int} {k : Nat} (hk : k < xs.length) (hm : xs.getD k 0 ∉ ys) : cnt xs ys (k + 1) = cnt xs ys k := by
  unfold cnt
  rw [take_getD xs hk, inter_snoc, if_neg hm]
theorem cnt_all (xs ys : List Int) : cnt xs ys xs.length = (inter xs ys).length := by
  unfold cnt
  rw [List.take_length]
theorem inter_split (xs ys : List Int) (k : Nat) : inter xs ys = inter (xs.take k) ys ++ inter (xs.drop k) ys := by
  unfold inter
  rw [← List.filter_append, List.take_append_drop]
/-- The k-th of xs, where ys holds it, stands in the common list at its count. -/
theorem inter_at {xs ys : List Int} {k : Nat} (hk : k < xs.length) (hm : xs.getD k 0 ∈ ys) : cnt xs ys k < (inter xs ys).length ∧ (inter xs ys).getD (cnt xs ys k) 0 = xs.getD k 0 := by
  have h1 : inter xs ys = inter (xs.take k) ys ++ (xs.getD k 0 :: inter (xs.drop (k + 1)) ys) := by
    rw [inter_split xs ys (k + 1), take_getD xs hk, inter_snoc, if_pos hm]
    simp
  constructor
  · rw [h1]
    unfold cnt
    simp
  · rw [h1]
    unfold cnt
    simp [List.getD]

end Lode
