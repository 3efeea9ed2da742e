/-
  Seat b6619393a: the walks of Days, dayShare, ZZdayShare.
-/
import Derived.Test.Qxb6619393aRows
import Derived.Test.Qxb6619393aPlain
import Derived.WalkKit
import Derived.WalkLawsBesides
import Derived.WalkSpells
import Derived.Below
import Derived.Deep.QuietTactic
import Derived.BigQuiet
namespace Go.Proofs.Qxb6619393a
open Go.RowKit

theorem days_any (st en : Int) (n : Nat) (w : World) (h1 : st ≤ en) (h3 : en - st ≤ 65536) (hn : en - st + 1 = (n : Int)) :
    Calls Try.prog 10 #[.agg #[.int .i32 st, .int .i32 en]] w fun e w' => e = .returned (.int .i64 n) ∧ Below w.heap.size w w' := by
  have HN : Hid (en - st + 1 = (n : Int)) := hn
  clear hn
  go_enter Try.func10, Try.ntmps10
  go_wp2
  go_ret
  exact ⟨congrArg (fun x : Int => Ending.returned (.int .i64 x)) HN.out, (Below.refl _ _).alloc (Nat.le_refl _) _⟩

set_option maxHeartbeats 1000000 in
theorem day_core (u n c q r : Nat) (st en d : Int) (w : World) (hu : (u : Int) ≤ 18446744073709551615) (h1 : st ≤ d) (h2 : d ≤ en) (h3 : en - st ≤ 65536)
    (hn : en - st + 1 = (n : Int)) (hc : en - d = (c : Int)) (hq : (u : Int) / (n : Int) = (q : Int)) (hr : (u : Int) % (n : Int) = (r : Int)) (hq1 : (q : Int) ≤ 18446744073709551615) (hq2 : c < r → (q : Int) + 1 ≤ 18446744073709551615) :
    Calls Try.prog 8 #[.int .u64 u, .agg #[.int .i32 st, .int .i32 en], .int .i32 d] w fun e w' => e = .returned (.int .u64 ((q : Int) + if c < r then 1 else 0)) ∧ Below w.heap.size w w' := by
  have hnp : (0 : Int) < (n : Int) := by omega
  have hn2 : (n : Int) ≤ 65537 := by omega
  have hnn : ((n : Int) == 0) = false := beq_eq_false_iff_ne.2 (by omega)
  have HC : Hid (en - d = (c : Int)) := hc
  have HN : Hid (en - st + 1 = (n : Int)) := hn
  clear hc hn
  by_cases hcr : c < r
  · have hq3 := hq2 hcr
    clear hq2
    rw [if_pos hcr]
    have hlt : en - d < (r : Int) := by rw [HC.out]; omega
    clear hcr
    go_enter Try.func8, Try.ntmps8
    go_wp2_with fail
    refine (days_any st en n _ (by omega) h3 HN.out).mono ?_
    rintro e w1 ⟨rfl, hb1⟩
    have hc1 : w1.cell? ⟨w.heap.size, 1, none⟩ = some (.int .i32 en) := by rw [hb1.cell (p := ⟨w.heap.size, 1, none⟩) (by simp)]; simp
    have hbw : Below w.heap.size w w1 := ((Below.refl _ _).alloc (Nat.le_refl _) _).trans (hb1.mono (by simp))
    clear hb1
    go_wp2_with fail
    go_quiet (fail)
    go_wp2_with fail
    go_ret
    exact ⟨rfl, below_drewN hbw nq⟩
  · rw [if_neg hcr]
    have hlt : (r : Int) ≤ en - d := by rw [HC.out]; omega
    clear hcr hq2
    go_enter Try.func8, Try.ntmps8
    go_wp2_with fail
    refine (days_any st en n _ (by omega) h3 HN.out).mono ?_
    rintro e w1 ⟨rfl, hb1⟩
    have hc1 : w1.cell? ⟨w.heap.size, 1, none⟩ = some (.int .i32 en) := by rw [hb1.cell (p := ⟨w.heap.size, 1, none⟩) (by simp)]; simp
    have hbw : Below w.heap.size w w1 := ((Below.refl _ _).alloc (Nat.le_refl _) _).trans (hb1.mono (by simp))
    clear hb1
    go_wp2_with fail
    go_quiet (fail)
    go_wp2_with fail
    go_ret
    exact ⟨by simp, below_drewN hbw nq⟩

/-- dayShare at any day of the period. -/
theorem day_any (u n c : Nat) (st en d : Int) (w : World) (hu : (u : Int) ≤ 18446744073709551615) (h1 : st ≤ d) (h2 : d ≤ en) (h3 : en - st ≤ 65536) (hn : en - st + 1 = (n : Int)) (hc : en - d = (c : Int)) :
    Calls Try.prog 8 #[.int .u64 u, .agg #[.int .i32 st, .int .i32 en], .int .i32 d] w fun e w' => e = .returned (.int .u64 (Earn.shr u n c)) ∧ Below w.heap.size w w' := by
  have hle := Earn.shr_le u n c (by omega)
  have hdl : u / n ≤ u := Nat.div_le_self u n
  refine (day_core u n c (u / n) (u % n) st en d w hu h1 h2 h3 hn hc (by simp) (by simp) (by omega) (fun h => ?_)).mono ?_
  · unfold Earn.shr at hle
    rw [if_pos h] at hle
    omega
  · rintro e w' ⟨rfl, hb⟩
    refine ⟨?_, hb⟩
    unfold Earn.shr
    by_cases h : c < u % n
    · rw [if_pos h, if_pos h]; simp
    · rw [if_neg h, if_neg h]; simp

/-- ZZdayShare hands on to dayShare. -/
theorem zzDay_any (u n c : Nat) (st en d : Int) (w : World) (hu : (u : Int) ≤ 18446744073709551615) (h1 : st ≤ d) (h2 : d ≤ en) (h3 : en - st ≤ 65536) (hn : en - st + 1 = (n : Int)) (hc : en - d = (c : Int)) :
    Calls Try.prog 5 #[.int .u64 u, .agg #[.int .i32 st, .int .i32 en], .int .i32 d] w fun e w' => e = .returned (.int .u64 (Earn.shr u n c)) ∧ Below w.heap.size w w' := by
  have HC : Hid (en - d = (c : Int)) := hc
  have HN : Hid (en - st + 1 = (n : Int)) := hn
  clear hc hn
  go_enter Try.func5, Try.ntmps5
  go_wp2_with fail
  refine (day_any u n c st en d _ hu h1 h2 h3 HN.out HC.out).mono ?_
  rintro e w1 ⟨rfl, hb1⟩
  go_wp2_with fail
  go_ret
  exact ⟨rfl, ((Below.refl _ _).alloc (Nat.le_refl _) _).trans (hb1.mono (by simp))⟩

end Go.Proofs.Qxb6619393a
