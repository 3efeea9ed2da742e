/-
  Seat b6619298a: the walks of zzB1Covers, zzB1HasExtra, and the byte guard over two []string.
-/
import Derived.Test.Qxb6619298aBytes
namespace Go.Proofs.Qxb6619298a
open Go.RowKit Go.Maps Go.WideMaps

def coversB (hs ws : List ByteArray) : Bool := Lode.covers (keysOf hs) (keysOf ws)
def extraB (hs ws : List ByteArray) : Bool := Lode.extra (keysOf hs) (keysOf ws)
theorem holdsB_eq (hs ws : List ByteArray) (first : Bool) : holdsB hs ws first = (coversB hs ws && (extraB hs ws || first)) := rfl
theorem coversB_miss {hs ws : List ByteArray} {k : Nat} {s : ByteArray} (hk : k < ws.length) (he : s = ws.getD k ByteArray.empty) (hi : inB hs s = false) : coversB hs ws = false := by
  rw [Bool.eq_false_iff]
  intro hc
  have := (Lode.covers_iff _ _).1 hc _ (mem_keyAt hk)
  rw [← he] at this
  unfold inB at hi
  rw [(Lode.has_iff _ _).2 this] at hi
  cases hi
theorem coversB_end {hs ws : List ByteArray} (h0 : coversTo hs ws ws.length) : coversB hs ws = true := by
  unfold coversTo at h0
  rw [keyAll] at h0
  exact (Lode.covers_iff _ _).2 h0
/-- None of the first k of hs is missing from ws. -/
def noExtraTo (hs ws : List ByteArray) (k : Nat) : Prop := coversTo ws hs k
theorem extraB_hit {hs ws : List ByteArray} {k : Nat} {s : ByteArray} (hk : k < hs.length) (he : s = hs.getD k ByteArray.empty) (hi : inB ws s = false) : extraB hs ws = true := by
  refine (Lode.extra_iff _ _).2 ⟨_, mem_keyAt hk, fun hm => ?_⟩
  rw [← he] at hm
  unfold inB at hi
  rw [(Lode.has_iff _ _).2 hm] at hi
  cases hi
theorem extraB_end {hs ws : List ByteArray} (h0 : noExtraTo hs ws hs.length) : extraB hs ws = false := by
  rw [Bool.eq_false_iff]
  intro hx
  obtain ⟨x, hx1, hx2⟩ := (Lode.extra_iff _ _).1 hx
  unfold noExtraTo coversTo at h0
  rw [keyAll] at h0
  exact hx2 (h0 x hx1)

set_option maxHeartbeats 1000000 in
set_option maxRecDepth 100000 in
theorem covers_any (a : Option Addr) (n cap : Nat) (hs : List ByteArray) (a' : Option Addr) (m cap' : Nat) (ws : List ByteArray) (w : World)
    (hn : n ≤ 4611686018427387904) (hm : m ≤ 4611686018427387904) (h1 : Strs w a n hs) (h2 : Strs w a' m ws) :
    Calls Try.prog 19 #[.slice a n cap, .slice a' m cap'] w fun e w' => e = .returned (.bool (coversB hs ws)) ∧ w' = w := by
  obtain ⟨hl2, hsz2, hrow2⟩ := h2
  have HL2 : Hid (ws.length = m) := hl2
  clear hl2
  go_enter Try.func19, Try.ntmps19
  go_wp2_with fail
  go_loop [5] (fun i => ∃ k : Nat, k ≤ m ∧ i = .int .i64 k ∧ coversTo hs ws k) (fun i => m - (intOf i).toNat)
  case atStart => exact ⟨0, Nat.zero_le _, rfl, by simp [coversTo]⟩
  case round =>
    obtain ⟨k, hk, rfl, hcov⟩ := hrel
    by_cases hlt : k < m
    · rcases hrow2 with h0 | ⟨b, off, rfl, hb, hc⟩
      · omega
      obtain ⟨s, hs0⟩ : ∃ s, s = ws.getD k ByteArray.empty := ⟨_, rfl⟩
      have hcx := hc k hlt
      rw [← hs0] at hcx
      have HS : Hid (s = ws.getD k ByteArray.empty) := hs0
      clear hc hs0
      have hin := in_any a n cap hs s w hn h1
      cases hi : inB hs s
      · rw [hi] at hin
        have HI : Hid (inB hs s = false) := hi
        clear hi
        go_wp2_with (go_at_call 22; refine hin.mono ?_; rintro e w1 ⟨rfl, rfl⟩)
        go_ret
        exact ⟨ret_bool (coversB_miss (by rw [HL2.out]; exact hlt) HS.out HI.out).symm, rfl⟩
      · rw [hi] at hin
        have HI : Hid (inB hs s = true) := hi
        clear hi
        go_wp2_with (go_at_call 22; refine hin.mono ?_; rintro e w1 ⟨rfl, rfl⟩)
        go_round
        case rel => exact ⟨k + 1, by omega, by go_num, coversTo_step (by rw [HL2.out]; exact hlt) HS.out hcov HI.out⟩
        case measure => simp [intOf]; omega
    · have e0 : k = m := by omega
      subst e0
      go_wp2_with fail
      go_ret
      exact ⟨ret_bool (coversB_end (by rw [HL2.out]; exact hcov)).symm, rfl⟩

set_option maxHeartbeats 1000000 in
set_option maxRecDepth 100000 in
theorem extra_any (a : Option Addr) (n cap : Nat) (hs : List ByteArray) (a' : Option Addr) (m cap' : Nat) (ws : List ByteArray) (w : World)
    (hn : n ≤ 4611686018427387904) (hm : m ≤ 4611686018427387904) (h1 : Strs w a n hs) (h2 : Strs w a' m ws) :
    Calls Try.prog 20 #[.slice a n cap, .slice a' m cap'] w fun e w' => e = .returned (.bool (extraB hs ws)) ∧ w' = w := by
  obtain ⟨hl2, hsz2, hrow2⟩ := h1
  have HL2 : Hid (hs.length = n) := hl2
  clear hl2
  go_enter Try.func20, Try.ntmps20
  go_wp2_with fail
  go_loop [5] (fun i => ∃ k : Nat, k ≤ n ∧ i = .int .i64 k ∧ noExtraTo hs ws k) (fun i => n - (intOf i).toNat)
  case atStart => exact ⟨0, Nat.zero_le _, rfl, by simp [noExtraTo, coversTo]⟩
  case round =>
    obtain ⟨k, hk, rfl, hcov⟩ := hrel
    by_cases hlt : k < n
    · rcases hrow2 with h0 | ⟨b, off, rfl, hb, hc⟩
      · omega
      obtain ⟨s, hs0⟩ : ∃ s, s = hs.getD k ByteArray.empty := ⟨_, rfl⟩
      have hcx := hc k hlt
      rw [← hs0] at hcx
      have HS : Hid (s = hs.getD k ByteArray.empty) := hs0
      clear hc hs0
      have hin := in_any a' m cap' ws s w hm h2
      cases hi : inB ws s
      · rw [hi] at hin
        have HI : Hid (inB ws s = false) := hi
        clear hi
        go_wp2_with (go_at_call 22; refine hin.mono ?_; rintro e w1 ⟨rfl, rfl⟩)
        go_ret
        exact ⟨ret_bool (extraB_hit (by rw [HL2.out]; exact hlt) HS.out HI.out).symm, rfl⟩
      · rw [hi] at hin
        have HI : Hid (inB ws s = true) := hi
        clear hi
        go_wp2_with (go_at_call 22; refine hin.mono ?_; rintro e w1 ⟨rfl, rfl⟩)
        go_round
        case rel => exact ⟨k + 1, by omega, by go_num, coversTo_step (by rw [HL2.out]; exact hlt) HS.out hcov HI.out⟩
        case measure => simp [intOf]; omega
    · have e0 : k = n := by omega
      subst e0
      go_wp2_with fail
      go_ret
      exact ⟨ret_bool (extraB_end (by rw [HL2.out]; exact hcov)).symm, rfl⟩

set_option maxHeartbeats 2000000 in
set_option maxRecDepth 100000 in
theorem zzBytes16_any (a : Option Addr) (n cap : Nat) (ss : List ByteArray) (a' : Option Addr) (m cap' : Nat) (ts : List ByteArray) (first : Bool) (w : World) (hn : n ≤ maxLen) (hm : m ≤ maxLen) (hs : Strs w a n ss) (ht : Strs w a' m ts) :
    Calls Try.prog 16 #[.slice a n cap, .slice a' m cap', .bool first] w fun e w' => SomeBool e ∧ w' = w := by
  obtain ⟨hl, hsz, hrow⟩ := hs
  obtain ⟨hl2, hsz2, hrow2⟩ := ht
  have HL : Hid (ss.length = n) := hl
  have HL2 : Hid (ts.length = m) := hl2
  clear hl hl2
  unfold maxLen at hn hm
  by_cases hbig : 1048576 < n
  · go_enter Try.func16, Try.ntmps16
    go_wp2
    go_ret
    exact ⟨SomeBool.mk _, rfl⟩
  go_enter Try.func16, Try.ntmps16
  go_wp2
  go_loop [7, 8] (fun t i => ∃ k : Nat, k ≤ n ∧ i = .int .i64 k ∧ ∃ r : Int, 0 ≤ r ∧ r ≤ 1048576 ∧ t = .int .i64 r) (fun _ i => n - (intOf i).toNat)
  case atStart => exact ⟨0, Nat.zero_le _, rfl, _, by omega, by omega, rfl⟩
  case round =>
    obtain ⟨k, hk, rfl, r, hr0, hr1, rfl⟩ := hrel
    by_cases hlt : k < n
    · rcases hrow with h0 | ⟨b, off, rfl, hb, hc⟩
      · omega
      obtain ⟨s, hs⟩ : ∃ s, s = ss.getD k ByteArray.empty := ⟨_, rfl⟩
      have hcx := hc k hlt
      have hss := size_getD hsz k
      rw [← hs] at hcx hss
      unfold maxLen at hss
      clear hc hs
      go_wp2
      all_goals first
        | (go_ret; exact ⟨SomeBool.mk _, rfl⟩)
        | skip
      go_round
      case rel => exact ⟨k + 1, by omega, by go_num, _, by omega, by omega, rfl⟩
      case measure => simp [intOf]; omega
    · have e0 : k = n := by omega
      subst e0
      by_cases hm1 : 1048576 < m
      · go_wp2
        go_ret
        exact ⟨SomeBool.mk _, rfl⟩
      by_cases hm2 : 1048576 < r + m
      · go_wp2
        go_ret
        exact ⟨SomeBool.mk _, rfl⟩
      go_wp2
      go_loop [7, 9] (fun t i => ∃ j : Nat, j ≤ m ∧ i = .int .i64 j ∧ ∃ r : Int, 0 ≤ r ∧ r ≤ 1048576 ∧ t = .int .i64 r) (fun _ i => m - (intOf i).toNat)
      case atStart => exact ⟨0, Nat.zero_le _, rfl, _, by omega, by omega, rfl⟩
      case round =>
        obtain ⟨j, hj, rfl, r2, hq0, hq1, rfl⟩ := hrel
        by_cases hlt2 : j < m
        · rcases hrow2 with h0 | ⟨b, off, rfl, hb, hc⟩
          · omega
          obtain ⟨s, hs⟩ : ∃ s, s = ts.getD j ByteArray.empty := ⟨_, rfl⟩
          have hcx := hc j hlt2
          have hss := size_getD hsz2 j
          rw [← hs] at hcx hss
          unfold maxLen at hss
          clear hc hs
          go_wp2
          all_goals first
            | (go_ret; exact ⟨SomeBool.mk _, rfl⟩)
            | skip
          go_round
          case rel => exact ⟨j + 1, by omega, by go_num, _, by omega, by omega, rfl⟩
          case measure => simp [intOf]; omega
        · have e1 : j = m := by omega
          subst e1
          go_wp2
          go_ret
          exact ⟨SomeBool.mk _, rfl⟩

end Go.Proofs.Qxb6619298a
