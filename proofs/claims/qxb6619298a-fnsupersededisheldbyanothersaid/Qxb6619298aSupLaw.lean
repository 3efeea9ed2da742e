/-
  Seat b6619298a: plain laws on 'superseded'; nothing of the program.
-/
import Derived.Test.Qxb6619298aPlain
namespace Lode
section
variable {α : Type} [DecidableEq α]

theorem supAt_iff (K : Nat → List α) (n i : Nat) : supAt K n i = true ↔ K i ≠ [] ∧ ∃ j, j < n ∧ hit K i j = true := by
  unfold supAt
  simp only [Bool.and_eq_true, decide_eq_true_eq, List.any_eq_true, List.mem_range]
theorem hit_iff (K : Nat → List α) (i j : Nat) : hit K i j = true ↔ j ≠ i ∧ covers (K j) (K i) = true ∧ (extra (K j) (K i) = true ∨ j < i) := by
  unfold hit holds
  simp only [Bool.and_eq_true, decide_eq_true_eq, Bool.or_eq_true]

/-- A copy of list k behind all n lists: the elder flags stay. -/
theorem supAt_dup_old {K K' : Nat → List α} {n k : Nat} (hk : k < n) (h1 : ∀ i, i < n → K' i = K i) (h2 : K' n = K k) {i : Nat} (hi : i < n) : supAt K' (n + 1) i = supAt K n i := by
  rw [Bool.eq_iff_iff, supAt_iff, supAt_iff, h1 i hi]
  constructor
  · rintro ⟨h0, j, hj, hh⟩
    refine ⟨h0, ?_⟩
    rw [hit_iff] at hh
    by_cases e : j = n
    · subst e
      rw [h2, h1 i hi] at hh
      obtain ⟨_, hc, hx⟩ := hh
      have hx2 : extra (K k) (K i) = true := by
        rcases hx with hx | hx
        · exact hx
        · omega
      refine ⟨k, hk, ?_⟩
      rw [hit_iff]
      refine ⟨fun e => ?_, hc, .inl hx2⟩
      subst e
      obtain ⟨x, hx3, hn⟩ := (extra_iff _ _).1 hx2
      exact hn hx3
    · have hjn : j < n := by omega
      rw [h1 j hjn, h1 i hi] at hh
      exact ⟨j, hjn, (hit_iff _ _ _).2 hh⟩
  · rintro ⟨h0, j, hj, hh⟩
    refine ⟨h0, j, by omega, ?_⟩
    rw [hit_iff] at hh ⊢
    rw [h1 j hj, h1 i hi]
    exact hh

/-- .. and the new last list is flagged just if it is not empty. -/
theorem supAt_dup_new {K K' : Nat → List α} {n k : Nat} (hk : k < n) (h1 : ∀ i, i < n → K' i = K i) (h2 : K' n = K k) : supAt K' (n + 1) n = decide (K k ≠ []) := by
  rw [Bool.eq_iff_iff, supAt_iff, decide_eq_true_eq, h2]
  constructor
  · exact fun h => h.1
  · intro h0
    refine ⟨h0, k, by omega, ?_⟩
    rw [hit_iff, h1 k hk, h2]
    exact ⟨by omega, (covers_iff _ _).2 (fun _ hx => hx), .inr hk⟩

end
end Lode
