/-
  Seat b6619298a: the walks of the guards over []string: zzB1StringsBytes, the two zzBytes. They only read, and hand back some number | some bool.
-/
import Derived.Test.Qxb6619298aHolds
namespace Go.Proofs.Qxb6619298a
open Go.RowKit Go.Maps Go.WideMaps

set_option maxHeartbeats 1000000 in
set_option maxRecDepth 100000 in
theorem stringsBytes_any (a : Option Addr) (n cap : Nat) (ss : List ByteArray) (st : Int) (w : World) (hn : n ≤ 4096) (h0 : 0 ≤ st) (h1 : st ≤ 4611686018427387904) (hs : Strs w a n ss) :
    Calls Try.prog 17 #[.slice a n cap, .int .i64 st] w fun e w' => (∃ r : Int, 0 ≤ r ∧ r ≤ 4611686018427387904 ∧ e = .returned (.int .i64 r)) ∧ w' = w := by
  obtain ⟨hl, hsz, hrow⟩ := hs
  have HL : Hid (ss.length = n) := hl
  clear hl
  by_cases hst : 1048576 < st
  · go_enter Try.func17, Try.ntmps17
    go_wp2
    go_ret
    exact ⟨⟨_, by omega, by omega, rfl⟩, rfl⟩
  by_cases htot : 1048576 < st + 16 * n
  · go_enter Try.func17, Try.ntmps17
    go_wp2
    go_ret
    exact ⟨⟨_, by omega, by omega, rfl⟩, rfl⟩
  go_enter Try.func17, Try.ntmps17
  go_wp2
  go_loop [6, 7] (fun t i => ∃ k : Nat, k ≤ n ∧ i = .int .i64 k ∧ ∃ r : Int, 0 ≤ r ∧ r ≤ 1048576 ∧ t = .int .i64 r) (fun _ i => n - (intOf i).toNat)
  case atStart => exact ⟨0, Nat.zero_le _, rfl, _, by omega, by omega, rfl⟩
  case round =>
    obtain ⟨k, hk, rfl, r, hr0, hr1, rfl⟩ := hrel
    by_cases hlt : k < n
    · rcases hrow with h0 | ⟨b, off, rfl, hb, hc⟩
      · omega
      obtain ⟨s, hs⟩ : ∃ s, s = ss.getD k ByteArray.empty := ⟨_, rfl⟩
      have hcx := hc k hlt
      have hss := size_getD hsz k
      rw [← hs] at hcx hss
      unfold maxLen at hss
      clear hc hs
      go_wp2
      all_goals first
        | (go_ret; exact ⟨⟨_, by omega, by omega, rfl⟩, rfl⟩)
        | skip
      go_round
      case rel => exact ⟨k + 1, by omega, by go_num, _, by omega, by omega, rfl⟩
      case measure => simp [intOf]; omega
    · have e0 : k = n := by omega
      subst e0
      go_wp2
      go_ret
      exact ⟨⟨_, by omega, by omega, rfl⟩, rfl⟩

/-- The call has handed back some bool. -/
def SomeBool (e : Ending) : Prop := ∃ r : Bool, e = .returned (.bool r)
theorem SomeBool.mk (r : Bool) : SomeBool (.returned (.bool r)) := ⟨r, rfl⟩

set_option maxHeartbeats 1000000 in
set_option maxRecDepth 100000 in
theorem zzBytes21_any (a : Option Addr) (n cap : Nat) (ss : List ByteArray) (x : ByteArray) (first : Bool) (w : World) (hn : n ≤ maxLen) (hx : x.size ≤ maxLen) (hs : Strs w a n ss) :
    Calls Try.prog 21 #[.slice a n cap, .string x, .bool first] w fun e w' => SomeBool e ∧ w' = w := by
  obtain ⟨hl, hsz, hrow⟩ := hs
  have HL : Hid (ss.length = n) := hl
  clear hl
  unfold maxLen at hn hx
  by_cases hbig : 1048576 < n
  · go_enter Try.func21, Try.ntmps21
    go_wp2
    go_ret
    exact ⟨SomeBool.mk _, rfl⟩
  go_enter Try.func21, Try.ntmps21
  go_wp2
  go_loop [7, 8] (fun t i => ∃ k : Nat, k ≤ n ∧ i = .int .i64 k ∧ ∃ r : Int, 0 ≤ r ∧ r ≤ 1048576 ∧ t = .int .i64 r) (fun _ i => n - (intOf i).toNat)
  case atStart => exact ⟨0, Nat.zero_le _, rfl, _, by omega, by omega, rfl⟩
  case round =>
    obtain ⟨k, hk, rfl, r, hr0, hr1, rfl⟩ := hrel
    by_cases hlt : k < n
    · rcases hrow with h0 | ⟨b, off, rfl, hb, hc⟩
      · omega
      obtain ⟨s, hs⟩ : ∃ s, s = ss.getD k ByteArray.empty := ⟨_, rfl⟩
      have hcx := hc k hlt
      have hss := size_getD hsz k
      rw [← hs] at hcx hss
      unfold maxLen at hss
      clear hc hs
      go_wp2
      all_goals first
        | (go_ret; exact ⟨SomeBool.mk _, rfl⟩)
        | skip
      go_round
      case rel => exact ⟨k + 1, by omega, by go_num, _, by omega, by omega, rfl⟩
      case measure => simp [intOf]; omega
    · have e0 : k = n := by omega
      subst e0
      go_wp2
      all_goals
        go_ret
        exact ⟨SomeBool.mk _, rfl⟩

end Go.Proofs.Qxb6619298a
