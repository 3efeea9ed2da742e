/-
  Seat b6619393a: the walks of earnedBy, ZZearnedBy, zzRestAfter.
-/
import Derived.Test.Qxb6619393aDay
namespace Go.Proofs.Qxb6619393a
open Go.RowKit

theorem retU {a b : Int} (h : a = b) : Ending.returned (.int .u64 a) = .returned (.int .u64 b) := by rw [h]

set_option maxHeartbeats 2000000 in
set_option maxRecDepth 100000 in
/-- earnedBy: the first kd days' shares together. -/
theorem earned_any (u n kd : Nat) (st en la : Int) (w : World) (hu : (u : Int) ≤ 18446744073709551615) (h0 : -2147483648 ≤ st) (h4 : en ≤ 2147483647) (h3 : en - st ≤ 65536) (hn : en - st + 1 = (n : Int)) (hn1 : 0 < n) (hk : la - st + 1 = (kd : Int)) (hkn : kd ≤ n) :
    Calls Try.prog 9 #[.int .u64 u, .agg #[.int .i32 st, .int .i32 en], .int .i32 la] w fun e w' => e = .returned (.int .u64 (Earn.sum u n kd)) ∧ Below w.heap.size w w' := by
  have HN : Hid (en - st + 1 = (n : Int)) := hn
  have HK : Hid (la - st + 1 = (kd : Int)) := hk
  have hle : la ≤ en := by omega
  have hge : st - 1 ≤ la := by omega
  clear hn hk
  by_cases hend : la = en
  · have HS : Hid ((u : Int) = ((Earn.sum u n kd : Nat) : Int)) := by
      unfold Hid
      have h1 := HN.out
      have h2 := HK.out
      have : kd = n := by omega
      rw [this, Earn.sum_all u n hn1]
    subst hend
    go_enter Try.func9, Try.ntmps9
    go_wp2_with fail
    go_ret
    exact ⟨retU HS.out, (Below.refl _ _).alloc (Nat.le_refl _) _⟩
  · have hne : (la == en) = false := beq_eq_false_iff_ne.2 hend
    have hlte : la < en := by omega
    clear hend
    go_enter Try.func9, Try.ntmps9
    go_wp2_with fail
    go_loopw [7, 8] (fun s7 s8 wr => ∃ (k S : Nat) (d : Int), k ≤ kd ∧ s7 = .int .u64 S ∧ s8 = .int .i32 d ∧ Hid (d = st + (k : Int)) ∧ st ≤ d ∧ d ≤ la + 1 ∧ Hid (S = Earn.sum u n k) ∧
        wr.cell? ⟨w.heap.size, 0, none⟩ = some (.int .i32 st) ∧ wr.cell? ⟨w.heap.size, 1, none⟩ = some (.int .i32 en) ∧ Below w.heap.size w wr) (fun _ s8 _ => (la + 1 - intOf s8).toNat)
    case atStart => exact ⟨0, 0, st, Nat.zero_le _, rfl, rfl, by simp [Hid], by omega, by omega, (Earn.sum_zero _ _).symm, by simp, by simp, (Below.refl _ _).alloc (Nat.le_refl _) _⟩
    case round =>
      obtain ⟨k, S, d, hkk, rfl, rfl, HD, hd1, hd2, HS, c0, c1, hb⟩ := hrel
      by_cases hlt : d ≤ la
      · have hkn2 : k < n := by have h1 := HD.out; have h2 := HK.out; omega
        obtain ⟨s, hse⟩ : ∃ s, s = Earn.shr u n (n - 1 - k) := ⟨_, rfl⟩
        have f4 : (S : Int) + (s : Int) ≤ (u : Int) := by
          have := Earn.sum_step_le u n k hkn2
          rw [← hse, ← HS.out] at this
          omega
        have HS2 : Hid (S + s = Earn.sum u n (k + 1)) := by
          unfold Hid
          rw [Earn.sum_succ u n k hkn2, ← hse, ← HS.out]
        have HC : Hid (∀ W, Calls Try.prog 8 #[.int .u64 u, .agg #[.int .i32 st, .int .i32 en], .int .i32 d] W fun e w' => e = .returned (.int .u64 s) ∧ Below W.heap.size W w') := fun W => by
          rw [hse]
          have h1 := HD.out
          have h2 := HN.out
          exact day_any u n (n - 1 - k) st en d W hu hd1 (by omega) h3 HN.out (by omega)
        have g1 : d + 1 ≤ 2147483647 := by omega
        have g2 : -2147483648 ≤ d + 1 := by omega
        have HK2 : Hid (k + 1 ≤ kd) := by have h1 := HD.out; have h2 := HK.out; unfold Hid; omega
        clear hse HS
        go_wp2_with fail
        refine (HC.out wr).mono ?_
        rintro e w9 ⟨rfl, hb9⟩
        have d0 : w9.cell? ⟨w.heap.size, 0, none⟩ = some (.int .i32 st) := cell_later hb9 c0
        have d1 : w9.cell? ⟨w.heap.size, 1, none⟩ = some (.int .i32 en) := cell_later hb9 c1
        have hb9' : Below w.heap.size w w9 := hb.trans (hb9.mono hb.size)
        clear hb9 HC c0 c1
        go_wp2_with fail
        go_roundw
        case rel => exact ⟨k + 1, S + s, d + 1, HK2.out, by go_num, rfl, by have := HD.out; unfold Hid; omega, by omega, by omega, HS2, d0, d1, hb9'⟩
        case measure => simp [intOf]; omega
      · have e0 : k = kd := by have h1 := HD.out; have h2 := HK.out; omega
        subst e0
        go_wp2_with fail
        go_ret
        exact ⟨retU (by rw [HS.out]), hb⟩

/-- ZZearnedBy hands on to earnedBy. -/
theorem zzEarned_any (u n kd : Nat) (st en la : Int) (w : World) (hu : (u : Int) ≤ 18446744073709551615) (h0 : -2147483648 ≤ st) (h4 : en ≤ 2147483647) (h3 : en - st ≤ 65536) (hn : en - st + 1 = (n : Int)) (hn1 : 0 < n) (hk : la - st + 1 = (kd : Int)) (hkn : kd ≤ n) :
    Calls Try.prog 6 #[.int .u64 u, .agg #[.int .i32 st, .int .i32 en], .int .i32 la] w fun e w' => e = .returned (.int .u64 (Earn.sum u n kd)) ∧ Below w.heap.size w w' := by
  have HN : Hid (en - st + 1 = (n : Int)) := hn
  have HK : Hid (la - st + 1 = (kd : Int)) := hk
  clear hn hk
  go_enter Try.func6, Try.ntmps6
  go_wp2_with fail
  refine (earned_any u n kd st en la _ hu h0 h4 h3 HN.out hn1 HK.out hkn).mono ?_
  rintro e w1 ⟨rfl, hb1⟩
  go_wp2_with fail
  go_ret
  exact ⟨rfl, ((Below.refl _ _).alloc (Nat.le_refl _) _).trans (hb1.mono (by simp))⟩

/-- What zzRestAfter leaves: the rest, and true. -/
def RestPost (w : World) (u n kd : Nat) (e : Ending) (w' : World) : Prop := ∃ R : Nat, e = .returned (.tuple #[.int .u64 R, .bool true]) ∧ Earn.sum u n kd + R = u ∧ Below w.heap.size w w'

set_option maxHeartbeats 2000000 in
set_option maxRecDepth 100000 in
theorem rest_any (u n kd : Nat) (st en la : Int) (w : World) (hu : (u : Int) ≤ 18446744073709551615) (h0 : -2147483648 ≤ st) (h4 : en ≤ 2147483647) (h3 : en - st ≤ 65536) (hn : en - st + 1 = (n : Int)) (hn1 : 0 < n) (hk : la - st + 1 = (kd : Int)) (hkn : kd ≤ n) :
    Calls Try.prog 7 #[.int .u64 u, .agg #[.int .i32 st, .int .i32 en], .int .i64 la, .int .i64 en] w fun e w' => RestPost w u n kd e w' := by
  have HN : Hid (en - st + 1 = (n : Int)) := hn
  have HK : Hid (la - st + 1 = (kd : Int)) := hk
  have hle : la ≤ en := by omega
  have hge : st - 1 ≤ la := by omega
  clear hn hk
  go_enter Try.func7, Try.ntmps7
  go_wp2_with fail
  go_loopw [10, 11] (fun s10 s11 wr => ∃ (j R : Nat) (d : Int), kd ≤ j ∧ j ≤ n ∧ s10 = .int .u64 R ∧ s11 = .int .i64 d ∧ Hid (d = st + (j : Int)) ∧ st ≤ d ∧ d ≤ en + 1 ∧ Hid (Earn.sum u n kd + R = Earn.sum u n j) ∧
      wr.cell? ⟨w.heap.size, 0, none⟩ = some (.int .i32 st) ∧ wr.cell? ⟨w.heap.size, 1, none⟩ = some (.int .i32 en) ∧ Below w.heap.size w wr) (fun _ s11 _ => (en + 1 - intOf s11).toNat)
  case atStart => exact ⟨kd, 0, la + 1, Nat.le_refl _, hkn, rfl, rfl, by have := HK.out; unfold Hid; omega, by omega, by omega, Nat.add_zero _, by simp, by simp, (Below.refl _ _).alloc (Nat.le_refl _) _⟩
  case round =>
    obtain ⟨j, R, d, hkj, hjn, rfl, rfl, HD, hd1, hd2, HS, c0, c1, hb⟩ := hrel
    by_cases hlt : d ≤ en
    · have hjn2 : j < n := by have h1 := HD.out; have h2 := HN.out; omega
      obtain ⟨s, hse⟩ : ∃ s, s = Earn.shr u n (n - 1 - j) := ⟨_, rfl⟩
      have f4 : (R : Int) + (s : Int) ≤ (u : Int) := by
        have h1 := Earn.sum_step_le u n j hjn2
        rw [← hse, ← HS.out] at h1
        omega
      have HS2 : Hid (Earn.sum u n kd + (R + s) = Earn.sum u n (j + 1)) := by
        unfold Hid
        rw [Earn.sum_succ u n j hjn2, ← hse, ← HS.out]
        omega
      have HC : Hid (∀ W, Calls Try.prog 5 #[.int .u64 u, .agg #[.int .i32 st, .int .i32 en], .int .i32 d] W fun e w' => e = .returned (.int .u64 s) ∧ Below W.heap.size W w') := fun W => by
        rw [hse]
        have h1 := HD.out
        have h2 := HN.out
        exact zzDay_any u n (n - 1 - j) st en d W hu hd1 hlt h3 HN.out (by omega)
      clear hse HS
      go_wp2_with fail
      refine (HC.out wr).mono ?_
      rintro e w9 ⟨rfl, hb9⟩
      have d0 : w9.cell? ⟨w.heap.size, 0, none⟩ = some (.int .i32 st) := cell_later hb9 c0
      have d1 : w9.cell? ⟨w.heap.size, 1, none⟩ = some (.int .i32 en) := cell_later hb9 c1
      have hb9' : Below w.heap.size w w9 := hb.trans (hb9.mono hb.size)
      clear hb9 HC c0 c1
      go_wp2_with fail
      go_roundw
      case rel => exact ⟨j + 1, R + s, d + 1, by omega, by omega, by go_num, rfl, by have := HD.out; unfold Hid; omega, by omega, by omega, HS2, d0, d1, hb9'⟩
      case measure => simp [intOf]; omega
    · have e0 : j = n := by have h1 := HD.out; have h2 := HN.out; omega
      subst e0
      go_wp2_with fail
      go_ret2
      exact ⟨R, rfl, by rw [HS.out]; exact Earn.sum_all u j hn1, hb⟩

end Go.Proofs.Qxb6619393a
