/-
  Seat b6619393a: the walk of FnEarnedByPlusRestIsUnitsMonotone.
-/
import Derived.Test.Qxb6619393aEarned
namespace Go.Proofs.Qxb6619393a
open Go.RowKit

set_option maxHeartbeats 2000000 in
set_option maxRecDepth 100000 in
theorem mono_walk (u v : Nat) (st en la : Int) (w : World) (hu : (u : Int) ≤ 18446744073709551615) (hv : (v : Int) ≤ 18446744073709551615) (h0 : -2147483648 ≤ st) (h1 : st ≤ 2147483647) (h2 : -2147483648 ≤ en) (h3 : en ≤ 2147483647) (h4 : -2147483648 ≤ la) (h5 : la ≤ 2147483647) :
    Calls Try.prog 4 #[.int .u64 u, .int .u64 v, .int .i32 st, .int .i32 en, .int .i32 la] w fun e w' => e = .returned (.bool true) ∧ Below w.heap.size w w' := by
  by_cases hneg : en - st < 0
  · go_enter Try.func4, Try.ntmps4
    go_wp2
    go_ret
    exact ⟨rfl, Below.refl _ _⟩
  by_cases hbig : 65536 < en - st
  · go_enter Try.func4, Try.ntmps4
    go_wp2
    go_ret
    exact ⟨rfl, Below.refl _ _⟩
  by_cases hl1 : la < st - 1
  · go_enter Try.func4, Try.ntmps4
    go_wp2
    go_ret
    exact ⟨rfl, Below.refl _ _⟩
  by_cases hl2 : en < la
  · go_enter Try.func4, Try.ntmps4
    go_wp2
    go_ret
    exact ⟨rfl, Below.refl _ _⟩
  obtain ⟨n, hn⟩ := Int.eq_ofNat_of_zero_le (show 0 ≤ en - st + 1 by omega)
  obtain ⟨kd, hk⟩ := Int.eq_ofNat_of_zero_le (show 0 ≤ la - st + 1 by omega)
  have hn1 : 0 < n := by omega
  have hkn : kd ≤ n := by omega
  obtain ⟨E1, hE1⟩ : ∃ E, E = Earn.sum u n kd := ⟨_, rfl⟩
  obtain ⟨E2, hE2⟩ : ∃ E, E = Earn.sum v n kd := ⟨_, rfl⟩
  have HE1 : Hid (∀ W, Calls Try.prog 6 #[.int .u64 u, .agg #[.int .i32 st, .int .i32 en], .int .i32 la] W fun e w' => e = .returned (.int .u64 E1) ∧ Below W.heap.size W w') := fun W => by
    rw [hE1]
    exact zzEarned_any u n kd st en la W hu h0 h3 (by omega) hn hn1 hk hkn
  have HE2 : Hid (∀ W, Calls Try.prog 6 #[.int .u64 v, .agg #[.int .i32 st, .int .i32 en], .int .i32 la] W fun e w' => e = .returned (.int .u64 E2) ∧ Below W.heap.size W w') := fun W => by
    rw [hE2]
    exact zzEarned_any v n kd st en la W hv h0 h3 (by omega) hn hn1 hk hkn
  have HR1 : Hid (∀ W, Calls Try.prog 7 #[.int .u64 u, .agg #[.int .i32 st, .int .i32 en], .int .i64 la, .int .i64 en] W fun e w' => RestPost W u n kd e w') := fun W => rest_any u n kd st en la W hu h0 h3 (by omega) hn hn1 hk hkn
  have HR2 : Hid (∀ W, Calls Try.prog 7 #[.int .u64 v, .agg #[.int .i32 st, .int .i32 en], .int .i64 la, .int .i64 en] W fun e w' => RestPost W v n kd e w') := fun W => rest_any v n kd st en la W hv h0 h3 (by omega) hn hn1 hk hkn
  have HM1 : Hid (u ≤ v → E1 ≤ E2) := fun h => by rw [hE1, hE2]; exact Earn.sum_mono_u u v n h kd hkn
  have HM2 : Hid (v ≤ u → E2 ≤ E1) := fun h => by rw [hE1, hE2]; exact Earn.sum_mono_u v u n h kd hkn
  have HE1' : Hid (E1 = Earn.sum u n kd) := hE1
  have HE2' : Hid (E2 = Earn.sum v n kd) := hE2
  clear hE1 hE2 hn hk hn1 hkn
  go_enter Try.func4, Try.ntmps4
  go_wp2_with fail
  refine (HE1.out _).mono ?_
  rintro e w1 ⟨rfl, hb1⟩
  have a0 : w1.cell? ⟨w.heap.size, 0, none⟩ = some (.int .i32 st) := by rw [hb1.cell (p := ⟨w.heap.size, 0, none⟩) (by simp)]; simp
  have a1 : w1.cell? ⟨w.heap.size, 1, none⟩ = some (.int .i32 en) := by rw [hb1.cell (p := ⟨w.heap.size, 1, none⟩) (by simp)]; simp
  have hB1 : Below w.heap.size w w1 := ((Below.refl _ _).alloc (Nat.le_refl _) _).trans (hb1.mono (by simp))
  clear hb1 HE1
  go_wp2_with fail
  refine (HE2.out _).mono ?_
  rintro e w2 ⟨rfl, hb2⟩
  have b0 : w2.cell? ⟨w.heap.size, 0, none⟩ = some (.int .i32 st) := cell_later hb2 a0
  have b1 : w2.cell? ⟨w.heap.size, 1, none⟩ = some (.int .i32 en) := cell_later hb2 a1
  have hB2 : Below w.heap.size w w2 := hB1.trans (hb2.mono hB1.size)
  clear hb2 HE2 a0 a1 hB1
  go_wp2_with fail
  refine (HR1.out _).mono ?_
  rintro e w3 ⟨R1, rfl, hR1, hb3⟩
  have c0 : w3.cell? ⟨w.heap.size, 0, none⟩ = some (.int .i32 st) := cell_later hb3 b0
  have c1 : w3.cell? ⟨w.heap.size, 1, none⟩ = some (.int .i32 en) := cell_later hb3 b1
  have hB3 : Below w.heap.size w w3 := hB2.trans (hb3.mono hB2.size)
  rw [← HE1'.out] at hR1
  have HR1' : Hid (E1 + R1 = u) := hR1
  clear hb3 HR1 b0 b1 hB2 hR1
  go_wp2_with fail
  refine (HR2.out _).mono ?_
  rintro e w4 ⟨R2, rfl, hR2, hb4⟩
  have hB4 : Below w.heap.size w w4 := hB3.trans (hb4.mono hB3.size)
  rw [← HE2'.out] at hR2
  have HR2' : Hid (E2 + R2 = v) := hR2
  clear hb4 HR2 c0 c1 hB3 hR2
  have g1 : (R1 : Int) ≤ (u : Int) := by have := HR1'.out; omega
  have g2 : (R2 : Int) ≤ (v : Int) := by have := HR2'.out; omega
  have t1 : ((E1 : Int) != (u : Int) - (R1 : Int)) = false := by
    have := HR1'.out
    rw [bne_eq_false_iff_eq]
    omega
  have t2 : ((E2 : Int) != (v : Int) - (R2 : Int)) = false := by
    have := HR2'.out
    rw [bne_eq_false_iff_eq]
    omega
  by_cases huv : u ≤ v
  · have hm := HM1.out huv
    have t3 : decide ((u : Int) ≤ (v : Int)) = true := by simp; exact huv
    go_wp2_with fail
    go_ret
    exact ⟨rfl, hB4⟩
  · have hm := HM2.out (by omega)
    have t3 : decide ((u : Int) ≤ (v : Int)) = false := by simp; omega
    go_wp2_with fail
    go_ret
    exact ⟨rfl, hB4⟩

end Go.Proofs.Qxb6619393a
