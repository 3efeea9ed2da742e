/-
  Seat b6619393a: the walk of FnDayShareFairBackLoadedTotal.
-/
import Derived.Test.Qxb6619393aDay
namespace Go.Proofs.Qxb6619393a
open Go.RowKit

set_option maxHeartbeats 2000000 in
set_option maxRecDepth 100000 in
theorem fair_walk (u : Nat) (st en : Int) (w : World) (hu : (u : Int) ≤ 18446744073709551615) (h0 : -2147483648 ≤ st) (h1 : st ≤ 2147483647) (h2 : -2147483648 ≤ en) (h3 : en ≤ 2147483647) :
    Calls Try.prog 3 #[.int .u64 u, .int .i32 st, .int .i32 en] w fun e w' => e = .returned (.bool true) ∧ Below w.heap.size w w' := by
  by_cases hneg : en - st < 0
  · go_enter Try.func3, Try.ntmps3
    go_wp2
    go_ret
    exact ⟨rfl, Below.refl _ _⟩
  by_cases hbig : 65536 < en - st
  · go_enter Try.func3, Try.ntmps3
    go_wp2
    go_ret
    exact ⟨rfl, Below.refl _ _⟩
  obtain ⟨sp, hsp⟩ := Int.eq_ofNat_of_zero_le (show 0 ≤ en - st by omega)
  have hsp2 : (sp : Int) ≤ 65536 := by omega
  obtain ⟨q, hqe⟩ : ∃ q, q = u / (sp + 1) := ⟨_, rfl⟩
  have hq : (u : Int) / ((sp : Int) + 1) = (q : Int) := by rw [hqe]; simp
  have hqu : (q : Int) ≤ (u : Int) := by rw [hqe]; have := Nat.div_le_self u (sp + 1); omega
  have HQ : Hid (q = u / (sp + 1)) := hqe
  have HEN : Hid (en - st = (sp : Int)) := hsp
  clear hqe hneg hbig
  have hn0 : ((sp : Int) + 1 == 0) = false := beq_eq_false_iff_ne.2 (by omega)
  have hd1 : decide ((sp : Int) < 0) = false := by simp
  have hd2 : decide ((65536 : Int) < (sp : Int)) = false := by simp; omega
  go_enter Try.func3, Try.ntmps3
  go_wp2_with fail
  go_loopw [11, 12, 13] (fun s11 s12 s13 wr => ∃ k S p : Nat, k ≤ sp + 1 ∧ s13 = .int .i64 k ∧ s11 = .int .u64 S ∧ s12 = .int .u64 p ∧ Hid (S = Earn.sum u (sp + 1) k) ∧ Hid (p ≤ Earn.shr u (sp + 1) (sp - k)) ∧
      wr.cell? ⟨w.heap.size, 0, none⟩ = some (.int .i32 st) ∧ wr.cell? ⟨w.heap.size, 1, none⟩ = some (.int .i32 en) ∧ Below w.heap.size w wr) (fun _ _ s13 _ => sp + 1 - (intOf s13).toNat)
  case atStart => exact ⟨0, 0, 0, Nat.zero_le _, rfl, rfl, rfl, (Earn.sum_zero _ _).symm, Nat.zero_le _, by simp, by simp, (Below.refl _ _).alloc (Nat.le_refl _) _⟩
  case round =>
    obtain ⟨k, S, p, hk, rfl, rfl, rfl, HS, HP, c0, c1, hb⟩ := hrel
    by_cases hlt : k < sp + 1
    · obtain ⟨s, hse⟩ : ∃ s, s = Earn.shr u (sp + 1) (sp - k) := ⟨_, rfl⟩
      have f1 : (q : Int) ≤ (s : Int) := by have := Earn.shr_lo u (sp + 1) (sp - k); rw [← hse, ← HQ.out] at this; omega
      have f2 : (s : Int) ≤ (q : Int) + 1 := by have := Earn.shr_hi u (sp + 1) (sp - k); rw [← hse, ← HQ.out] at this; omega
      have f3 : (p : Int) ≤ (s : Int) := by have := HP.out; rw [← hse] at this; omega
      have f4 : (S : Int) + (s : Int) ≤ (u : Int) := by
        have := Earn.sum_step_le u (sp + 1) k hlt
        rw [Nat.add_sub_cancel, ← hse, ← HS.out] at this
        omega
      have HS2 : Hid (S + s = Earn.sum u (sp + 1) (k + 1)) := by
        unfold Hid
        rw [Earn.sum_succ u (sp + 1) k hlt, Nat.add_sub_cancel, ← hse, ← HS.out]
      have HP2 : Hid (s ≤ Earn.shr u (sp + 1) (sp - (k + 1))) := by
        unfold Hid
        rw [hse]
        exact Earn.shr_mono_c _ _ _ _ (by omega)
      have hcall : ∀ W, Calls Try.prog 5 #[.int .u64 u, .agg #[.int .i32 st, .int .i32 en], .int .i32 (st + (k : Int))] W fun e w' => e = .returned (.int .u64 s) ∧ Below W.heap.size W w' := fun W => by
        rw [hse]
        exact zzDay_any u (sp + 1) (sp - k) st en (st + k) W hu (by omega) (by have := HEN.out; omega) (by have := HEN.out; omega) (by have := HEN.out; omega) (by have := HEN.out; omega)
      have HC : Hid (∀ W, Calls Try.prog 5 #[.int .u64 u, .agg #[.int .i32 st, .int .i32 en], .int .i32 (st + (k : Int))] W fun e w' => e = .returned (.int .u64 s) ∧ Below W.heap.size W w') := hcall
      clear hcall hse HP HS
      have g1 : st + (k : Int) ≤ 2147483647 := by have := HEN.out; omega
      have g2 : (k : Int) ≤ (sp : Int) := by omega
      go_wp2_with fail
      refine (HC.out wr).mono ?_
      rintro e w9 ⟨rfl, hb9⟩
      have d0 : w9.cell? ⟨w.heap.size, 0, none⟩ = some (.int .i32 st) := cell_later hb9 c0
      have d1 : w9.cell? ⟨w.heap.size, 1, none⟩ = some (.int .i32 en) := cell_later hb9 c1
      have hb9' : Below w.heap.size w w9 := hb.trans (hb9.mono hb.size)
      clear hb9 HC c0 c1
      have e1 : decide ((s : Int) < (q : Int)) = false := by simp; omega
      have e2 : decide ((s : Int) < (p : Int)) = false := by simp; omega
      by_cases hk0 : k = 0
      · subst hk0
        go_wp2_with fail
        go_roundw
        case rel => exact ⟨1, S + s, s, by omega, rfl, by go_num, rfl, HS2, HP2, d0, d1, hb9'⟩
        case measure => simp [intOf]
      · have hkp : decide ((0 : Int) < (k : Int)) = true := by simp; omega
        go_wp2_with fail
        go_roundw
        case rel => exact ⟨k + 1, S + s, s, by omega, by go_num, by go_num, rfl, HS2, HP2, d0, d1, hb9'⟩
        case measure => simp [intOf]; omega
    · have e0 : k = sp + 1 := by omega
      subst e0
      have hSu : S = u := by rw [HS.out]; exact Earn.sum_all u (sp + 1) (by omega)
      subst hSu
      go_wp2_with fail
      go_ret
      exact ⟨by simp, hb⟩

end Go.Proofs.Qxb6619393a
