/-
  Seat b6619298a: plain laws on lists; nothing of the program.
-/
namespace Lode
section
variable {α : Type} [DecidableEq α]

/-- x is among xs. -/
def has (xs : List α) (x : α) : Bool := decide (x ∈ xs)
/-- every one of w is among h. -/
def covers (h w : List α) : Bool := w.all fun x => has h x
/-- some one of h is not among w. -/
def extra (h w : List α) : Bool := h.any fun x => !has w x

theorem has_iff (xs : List α) (x : α) : has xs x = true ↔ x ∈ xs := by simp [has]
theorem has_nil (x : α) : has [] x = false := by simp [has]
theorem has_snoc (xs : List α) (x y : α) : has (xs ++ [y]) x = (has xs x || decide (x = y)) := by
  simp [has]
theorem covers_iff (h w : List α) : covers h w = true ↔ ∀ x ∈ w, x ∈ h := by simp [covers, has]
theorem extra_iff (h w : List α) : extra h w = true ↔ ∃ x ∈ h, x ∉ w := by simp [extra, has]
theorem covers_snoc (h w : List α) (x : α) : covers h (w ++ [x]) = (covers h w && has h x) := by simp [covers]
theorem extra_snoc (h w : List α) (x : α) : extra (h ++ [x]) w = (extra h w || !has w x) := by simp [extra]

/-- how many different ones a list holds (told from its end). -/
def distR : List α → Nat
  | [] => 0
  | x :: r => distR r + if x ∈ r then 0 else 1
def dist (xs : List α) : Nat := distR xs.reverse
theorem dist_nil : dist ([] : List α) = 0 := rfl
theorem dist_snoc (xs : List α) (x : α) : dist (xs ++ [x]) = dist xs + if has xs x = true then 0 else 1 := by
  simp [dist, distR, has]

def uniq : List α → List α
  | [] => []
  | x :: r => if x ∈ r then uniq r else x :: uniq r
theorem mem_uniq (x : α) : ∀ xs : List α, x ∈ uniq xs ↔ x ∈ xs
  | [] => by simp [uniq]
  | y :: r => by
    have ih := mem_uniq x r
    unfold uniq
    split
    · rename_i hy
      rw [ih]
      constructor
      · exact fun h => List.mem_cons_of_mem _ h
      · intro h
        rcases List.mem_cons.1 h with h | h
        · rw [h]; exact hy
        · exact h
    · simp [ih]
theorem nodup_uniq : ∀ xs : List α, (uniq xs).Nodup
  | [] => by simp [uniq]
  | y :: r => by
    have ih := nodup_uniq r
    unfold uniq
    split
    · exact ih
    · rename_i hy
      exact List.nodup_cons.2 ⟨fun h => hy ((mem_uniq y r).1 h), ih⟩
theorem length_uniq : ∀ xs : List α, (uniq xs).length = distR xs
  | [] => rfl
  | y :: r => by
    have ih := length_uniq r
    unfold uniq distR
    split <;> simp [ih]

theorem length_le_of_nodup : ∀ (xs ys : List α), xs.Nodup → (∀ x ∈ xs, x ∈ ys) → xs.length ≤ ys.length
  | [], _, _, _ => Nat.zero_le _
  | x :: r, ys, hn, hs => by
    obtain ⟨h1, h2⟩ := List.nodup_cons.1 hn
    have hx : x ∈ ys := hs x (by simp)
    have ih := length_le_of_nodup r (ys.erase x) h2 (fun z hz => by
      have hne : z ≠ x := fun e => h1 (e ▸ hz)
      exact (List.mem_erase_of_ne hne).2 (hs z (by simp [hz])))
    rw [List.length_erase_of_mem hx] at ih
    have : 0 < ys.length := List.length_pos_of_mem hx
    simp only [List.length_cons]
    omega

theorem dist_mono (w h : List α) (hs : ∀ x ∈ w, x ∈ h) : dist w ≤ dist h := by
  unfold dist
  rw [← length_uniq, ← length_uniq]
  refine length_le_of_nodup _ _ (nodup_uniq _) (fun x hx => ?_)
  rw [mem_uniq] at hx ⊢
  simp only [List.mem_reverse] at hx ⊢
  exact hs x hx

theorem dist_lt (w h : List α) (hs : ∀ x ∈ w, x ∈ h) (y : α) (hy : y ∈ h) (hn : y ∉ w) : dist w < dist h := by
  have h1 := dist_mono (w ++ [y]) h (fun x hx => by
    rcases List.mem_append.1 hx with hx | hx
    · exact hs x hx
    · rw [List.mem_singleton.1 hx]; exact hy)
  rw [dist_snoc, if_neg (by rw [has_iff]; exact hn)] at h1
  omega

/-- Where h covers w: h holds more different ones than w just if some one of h is not among w. -/
theorem more_iff (h w : List α) (hc : covers h w = true) : decide (dist w < dist h) = extra h w := by
  rw [covers_iff] at hc
  rw [Bool.eq_iff_iff, extra_iff, decide_eq_true_iff]
  constructor
  · intro hlt
    refine Classical.byContradiction fun hno => ?_
    have := dist_mono h w (fun x hx => Classical.byContradiction fun hxw => hno ⟨x, hx, hxw⟩)
    omega
  · rintro ⟨y, hy, hn⟩
    exact dist_lt w h hc y hy hn

/-- What holdsAll answers. -/
def holds (h w : List α) (first : Bool) : Bool := covers h w && (extra h w || first)

theorem holds_self (h : List α) (first : Bool) : holds h h first = first := by
  have h1 : covers h h = true := (covers_iff h h).2 fun _ hx => hx
  have h2 : extra h h = false := by
    rw [Bool.eq_false_iff]
    intro he
    obtain ⟨x, hx, hn⟩ := (extra_iff h h).1 he
    exact hn hx
  simp [holds, h1, h2]

theorem holds_grown (h : List α) (x : α) : holds (h ++ [x]) h false = !has h x := by
  have h1 : covers (h ++ [x]) h = true := (covers_iff _ _).2 fun _ hx => List.mem_append_left _ hx
  have h2 : extra h h = false := by
    rw [Bool.eq_false_iff]
    intro he
    obtain ⟨x, hx, hn⟩ := (extra_iff h h).1 he
    exact hn hx
  simp [holds, h1, extra_snoc, h2]

theorem holds_shrunk (h : List α) (x : α) : holds h (h ++ [x]) false = false := by
  have h2 : extra h (h ++ [x]) = false := by
    rw [Bool.eq_false_iff]
    intro he
    obtain ⟨y, hy, hn⟩ := (extra_iff _ _).1 he
    exact hn (List.mem_append_left _ hy)
  simp [holds, h2]

/-- Is list i of n (as K gives them) superseded? -/
def hit (K : Nat → List α) (i j : Nat) : Bool := decide (j ≠ i) && holds (K j) (K i) (decide (j < i))
def supAt (K : Nat → List α) (n i : Nat) : Bool := decide (K i ≠ []) && (List.range n).any fun j => hit K i j

theorem supAt_nil {K : Nat → List α} {n i : Nat} (h : K i = []) : supAt K n i = false := by simp [supAt, h]
theorem hit_mem {K : Nat → List α} {i j : Nat} {x : α} (hx : x ∈ K i) (h : hit K i j = true) : x ∈ K j := by
  unfold hit holds at h
  simp only [Bool.and_eq_true] at h
  exact (covers_iff _ _).1 h.2.1 x hx
theorem supAt_hit {K : Nat → List α} {n i j : Nat} (h0 : K i ≠ []) (hj : j < n) (h : hit K i j = true) : supAt K n i = true := by
  unfold supAt
  simp only [Bool.and_eq_true, decide_eq_true_eq, List.any_eq_true, List.mem_range]
  exact ⟨h0, j, hj, h⟩
/-- No j that holds x, one of list i, is a hit: then i is not superseded. -/
theorem supAt_miss {K : Nat → List α} {n i : Nat} {x : α} (hx : x ∈ K i) (h : ∀ j, j < n → x ∈ K j → hit K i j = false) : supAt K n i = false := by
  rw [Bool.eq_false_iff]
  intro hs
  unfold supAt at hs
  simp only [Bool.and_eq_true, List.any_eq_true, List.mem_range] at hs
  obtain ⟨_, j, hj, hh⟩ := hs
  rw [h j hj (hit_mem hx hh)] at hh
  cases hh

end
end Lode
