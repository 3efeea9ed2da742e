/-
  Seat b6619393a: plain laws on day shares; nothing of the program.
-/
namespace Earn

/-- The share of a day with c days behind it: u over n days. -/
def shr (u n c : Nat) : Nat := u / n + if c < u % n then 1 else 0
/-- The first k days' shares together. -/
def sum (u n k : Nat) : Nat := k * (u / n) + (k - (n - u % n))

theorem shr_lo (u n c : Nat) : u / n ≤ shr u n c := by unfold shr; omega
theorem shr_hi (u n c : Nat) : shr u n c ≤ u / n + 1 := by unfold shr; split <;> omega
theorem shr_le (u n c : Nat) (hc : c < n) : shr u n c ≤ u := by
  unfold shr
  by_cases h : c < u % n
  · rw [if_pos h]
    have h1 := Nat.div_add_mod u n
    have h2 : u / n ≤ n * (u / n) := Nat.le_mul_of_pos_left _ (by omega)
    omega
  · rw [if_neg h]
    exact Nat.div_le_self u n
theorem shr_mono_c (u n c c' : Nat) (h : c' ≤ c) : shr u n c ≤ shr u n c' := by
  unfold shr
  by_cases h1 : c < u % n
  · rw [if_pos h1, if_pos (by omega)]
    exact Nat.le_refl _
  · rw [if_neg h1]
    omega

theorem sum_zero (u n : Nat) : sum u n 0 = 0 := by simp [sum]
theorem sum_succ (u n k : Nat) (hk : k < n) : sum u n (k + 1) = sum u n k + shr u n (n - 1 - k) := by
  unfold sum shr
  have hr : u % n < n := Nat.mod_lt _ (by omega)
  rw [Nat.add_mul, Nat.one_mul]
  generalize k * (u / n) = a
  generalize u / n = q
  generalize u % n = r at *
  split <;> omega
theorem sum_all (u n : Nat) (hn : 0 < n) : sum u n n = u := by
  unfold sum
  have hr : u % n < n := Nat.mod_lt _ hn
  have h1 := Nat.div_add_mod u n
  omega
theorem sum_mono (u n k l : Nat) (h : k ≤ l) : sum u n k ≤ sum u n l := by
  unfold sum
  have h1 : k * (u / n) ≤ l * (u / n) := Nat.mul_le_mul_right _ h
  omega
theorem sum_le (u n k : Nat) (hn : 0 < n) (hk : k ≤ n) : sum u n k ≤ u := by
  have := sum_mono u n k n hk
  rwa [sum_all u n hn] at this
theorem sum_step_le (u n k : Nat) (hk : k < n) : sum u n k + shr u n (n - 1 - k) ≤ u := by
  rw [← sum_succ u n k hk]
  exact sum_le u n (k + 1) (by omega) hk

/-- A share as one quotient: so it grows with u. -/
theorem shr_eq (u n c : Nat) (hc : c < n) : shr u n c = (u + (n - 1 - c)) / n := by
  unfold shr
  have hn : 0 < n := by omega
  have h1 := Nat.div_add_mod u n
  have hr : u % n < n := Nat.mod_lt _ hn
  generalize u / n = q at *
  generalize u % n = r at *
  subst h1
  rw [Nat.add_assoc, Nat.mul_add_div hn]
  congr 1
  by_cases h : c < r
  · rw [if_pos h]
    symm
    exact Nat.div_eq_of_lt_le (by omega) (by omega)
  · rw [if_neg h]
    symm
    exact Nat.div_eq_of_lt (by omega)
theorem shr_mono_u (u v n c : Nat) (hc : c < n) (h : u ≤ v) : shr u n c ≤ shr v n c := by
  rw [shr_eq u n c hc, shr_eq v n c hc]
  exact Nat.div_le_div_right (by omega)
theorem sum_mono_u (u v n : Nat) (h : u ≤ v) : ∀ k, k ≤ n → sum u n k ≤ sum v n k
  | 0, _ => by simp [sum_zero]
  | k + 1, hk => by
    rw [sum_succ u n k (by omega), sum_succ v n k (by omega)]
    have h1 := sum_mono_u u v n h k (by omega)
    have h2 := shr_mono_u u v n (n - 1 - k) (by omega) h
    omega

end Earn
