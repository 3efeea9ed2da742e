/-
  Seat b6619298a: the walks of the guards over [][]string: the two zzBytes, zzB1SourcesTooBig.
-/
import Derived.Test.Qxb6619298aSupBase
namespace Go.Proofs.Qxb6619298a
open Go.RowKit Go.Maps Go.WideMaps

set_option maxHeartbeats 2000000 in
set_option maxRecDepth 100000 in
theorem zzBytes23_any (a : Option Addr) (n cap : Nat) (rows : List Src) (w : World) (hn : n ≤ maxLen) (hs : Srcs w a n rows) :
    Calls Try.prog 23 #[.slice a n cap] w fun e w' => SomeBool e ∧ w' = w := by
  obtain ⟨hl, hro, hrow⟩ := hs
  have HL : Hid (rows.length = n) := hl
  clear hl
  unfold maxLen at hn
  by_cases hbig : 1048576 < n
  · go_enter Try.func23, Try.ntmps23
    go_wp2
    go_ret
    exact ⟨SomeBool.mk _, rfl⟩
  go_enter Try.func23, Try.ntmps23
  go_wp2
  go_loop [3, 4] (fun t i => ∃ k : Nat, k ≤ n ∧ i = .int .i64 k ∧ ∃ r : Int, 0 ≤ r ∧ r ≤ 1048576 ∧ t = .int .i64 r) (fun _ i => n - (intOf i).toNat)
  case atStart => exact ⟨0, Nat.zero_le _, rfl, _, by omega, by omega, rfl⟩
  case round =>
    obtain ⟨k, hk, rfl, r, hr0, hr1, rfl⟩ := hrel
    by_cases hlt : k < n
    · rcases hrow with h0 | ⟨b, off, rfl, hb, hc⟩
      · omega
      obtain ⟨a2, m, cap2, ss, he⟩ : ∃ a m cap ss, srcAt rows k = ⟨a, m, cap, ss⟩ := ⟨_, _, _, _, rfl⟩
      have hcx := hc k hlt
      have hrk := hro k
      rw [he] at hcx hrk
      simp only [Src.val] at hcx hrk
      clear hc he hro
      obtain ⟨hl2, hsz2, hrow2⟩ := hrk
      have HL2 : Hid (ss.length = m) := hl2
      clear hl2
      by_cases hm1 : 1048576 < m
      · go_wp2
        go_ret
        exact ⟨SomeBool.mk _, rfl⟩
      by_cases hm2 : 1048576 < r + m
      · go_wp2
        go_ret
        exact ⟨SomeBool.mk _, rfl⟩
      go_wp2
      go_loop [3, 5] (fun t i => ∃ j : Nat, j ≤ m ∧ i = .int .i64 j ∧ ∃ r : Int, 0 ≤ r ∧ r ≤ 1048576 ∧ t = .int .i64 r) (fun _ i => m - (intOf i).toNat)
      case atStart => exact ⟨0, Nat.zero_le _, rfl, _, by omega, by omega, rfl⟩
      case round =>
        obtain ⟨j, hj, rfl, r2, hq0, hq1, rfl⟩ := hrel
        by_cases hlt2 : j < m
        · rcases hrow2 with h0 | ⟨b2, off2, rfl, hb2, hc2⟩
          · omega
          obtain ⟨s, hs⟩ : ∃ s, s = ss.getD j ByteArray.empty := ⟨_, rfl⟩
          have hcy := hc2 j hlt2
          have hss := size_getD hsz2 j
          rw [← hs] at hcy hss
          unfold maxLen at hss
          clear hc2 hs
          go_wp2
          all_goals first
            | (go_ret; exact ⟨SomeBool.mk _, rfl⟩)
            | skip
          go_round
          case rel => exact ⟨j + 1, by omega, by go_num, _, by omega, by omega, rfl⟩
          case measure => simp [intOf]; omega
        · have e1 : j = m := by omega
          subst e1
          go_wp2
          go_round
          case rel => exact ⟨k + 1, by omega, by go_num, _, by omega, by omega, rfl⟩
          case measure => simp [intOf]; omega
    · have e0 : k = n := by omega
      subst e0
      go_wp2
      all_goals
        go_ret
        exact ⟨SomeBool.mk _, rfl⟩

set_option maxHeartbeats 2000000 in
set_option maxRecDepth 100000 in
theorem zzBytes26_any (a : Option Addr) (n cap : Nat) (rows : List Src) (q : Int) (w : World) (hn : n ≤ maxLen) (hs : Srcs w a n rows) :
    Calls Try.prog 26 #[.slice a n cap, .int .i64 q] w fun e w' => SomeBool e ∧ w' = w := by
  obtain ⟨hl, hro, hrow⟩ := hs
  have HL : Hid (rows.length = n) := hl
  clear hl
  unfold maxLen at hn
  by_cases hbig : 1048576 < n
  · go_enter Try.func26, Try.ntmps26
    go_wp2
    go_ret
    exact ⟨SomeBool.mk _, rfl⟩
  go_enter Try.func26, Try.ntmps26
  go_wp2
  go_loop [5, 6] (fun t i => ∃ k : Nat, k ≤ n ∧ i = .int .i64 k ∧ ∃ r : Int, 0 ≤ r ∧ r ≤ 1048576 ∧ t = .int .i64 r) (fun _ i => n - (intOf i).toNat)
  case atStart => exact ⟨0, Nat.zero_le _, rfl, _, by omega, by omega, rfl⟩
  case round =>
    obtain ⟨k, hk, rfl, r, hr0, hr1, rfl⟩ := hrel
    by_cases hlt : k < n
    · rcases hrow with h0 | ⟨b, off, rfl, hb, hc⟩
      · omega
      obtain ⟨a2, m, cap2, ss, he⟩ : ∃ a m cap ss, srcAt rows k = ⟨a, m, cap, ss⟩ := ⟨_, _, _, _, rfl⟩
      have hcx := hc k hlt
      have hrk := hro k
      rw [he] at hcx hrk
      simp only [Src.val] at hcx hrk
      clear hc he hro
      obtain ⟨hl2, hsz2, hrow2⟩ := hrk
      have HL2 : Hid (ss.length = m) := hl2
      clear hl2
      by_cases hm1 : 1048576 < m
      · go_wp2
        go_ret
        exact ⟨SomeBool.mk _, rfl⟩
      by_cases hm2 : 1048576 < r + m
      · go_wp2
        go_ret
        exact ⟨SomeBool.mk _, rfl⟩
      go_wp2
      go_loop [5, 7] (fun t i => ∃ j : Nat, j ≤ m ∧ i = .int .i64 j ∧ ∃ r : Int, 0 ≤ r ∧ r ≤ 1048576 ∧ t = .int .i64 r) (fun _ i => m - (intOf i).toNat)
      case atStart => exact ⟨0, Nat.zero_le _, rfl, _, by omega, by omega, rfl⟩
      case round =>
        obtain ⟨j, hj, rfl, r2, hq0, hq1, rfl⟩ := hrel
        by_cases hlt2 : j < m
        · rcases hrow2 with h0 | ⟨b2, off2, rfl, hb2, hc2⟩
          · omega
          obtain ⟨s, hs⟩ : ∃ s, s = ss.getD j ByteArray.empty := ⟨_, rfl⟩
          have hcy := hc2 j hlt2
          have hss := size_getD hsz2 j
          rw [← hs] at hcy hss
          unfold maxLen at hss
          clear hc2 hs
          go_wp2
          all_goals first
            | (go_ret; exact ⟨SomeBool.mk _, rfl⟩)
            | skip
          go_round
          case rel => exact ⟨j + 1, by omega, by go_num, _, by omega, by omega, rfl⟩
          case measure => simp [intOf]; omega
        · have e1 : j = m := by omega
          subst e1
          go_wp2
          go_round
          case rel => exact ⟨k + 1, by omega, by go_num, _, by omega, by omega, rfl⟩
          case measure => simp [intOf]; omega
    · have e0 : k = n := by omega
      subst e0
      go_wp2
      all_goals
        go_ret
        exact ⟨SomeBool.mk _, rfl⟩

/-- What zzB1SourcesTooBig answers, as far as it is wanted: false only where no list is longer than 4096 and there are at most 4096. -/
def TooBig (n : Nat) (rows : List Src) (e : Ending) : Prop := ∃ r : Bool, e = .returned (.bool r) ∧ (r = false → n ≤ 4096 ∧ ∀ i, (srcAt rows i).n ≤ 4096)
theorem TooBig.yes (n : Nat) (rows : List Src) : TooBig n rows (.returned (.bool true)) := ⟨true, rfl, fun h => by cases h⟩
theorem TooBig.no {n : Nat} {rows : List Src} (hn : n ≤ 4096) (hl : rows.length = n) (h : ∀ i, i < n → (srcAt rows i).n ≤ 4096) : TooBig n rows (.returned (.bool false)) := ⟨false, rfl, fun _ => ⟨hn, fun i => by
  by_cases hi : i < n
  · exact h i hi
  · have : srcAt rows i = Src.nil := by simp [srcAt, List.getD, List.getElem?_eq_none (show rows.length ≤ i by omega)]
    rw [this]
    exact Nat.zero_le _⟩⟩
def lensTo (rows : List Src) (k : Nat) : Prop := ∀ i, i < k → (srcAt rows i).n ≤ 4096
theorem lensTo_step {rows : List Src} {k : Nat} {a : Option Addr} {m cap : Nat} {ss : List ByteArray} (h : lensTo rows k) (he : srcAt rows k = ⟨a, m, cap, ss⟩) (hm : m ≤ 4096) : lensTo rows (k + 1) := fun i hi => by
  by_cases e : i = k
  · subst e; rw [he]; exact hm
  · exact h i (by omega)

set_option maxHeartbeats 2000000 in
set_option maxRecDepth 100000 in
theorem tooBig_any (a : Option Addr) (n cap : Nat) (rows : List Src) (w : World) (hn : n ≤ maxLen) (hs : Srcs w a n rows) :
    Calls Try.prog 24 #[.slice a n cap] w fun e w' => TooBig n rows e ∧ w' = w := by
  obtain ⟨hl, hro, hrow⟩ := hs
  have HL : Hid (rows.length = n) := hl
  clear hl
  unfold maxLen at hn
  by_cases hbig : 4096 < n
  · go_enter Try.func24, Try.ntmps24
    go_wp2
    go_ret
    exact ⟨TooBig.yes _ _, rfl⟩
  go_enter Try.func24, Try.ntmps24
  go_wp2
  go_loop [3, 4] (fun t i => ∃ k : Nat, k ≤ n ∧ i = .int .i64 k ∧ Hid (lensTo rows k) ∧ ∃ r : Int, 0 ≤ r ∧ r ≤ 1048576 ∧ t = .int .i64 r) (fun _ i => n - (intOf i).toNat)
  case atStart => exact ⟨0, Nat.zero_le _, rfl, fun _ h => absurd h (Nat.not_lt_zero _), _, by omega, by omega, rfl⟩
  case round =>
    obtain ⟨k, hk, rfl, HT, r, hr0, hr1, rfl⟩ := hrel
    by_cases hlt : k < n
    · rcases hrow with h0 | ⟨b, off, rfl, hb, hc⟩
      · omega
      obtain ⟨a2, m, cap2, ss, he⟩ : ∃ a m cap ss, srcAt rows k = ⟨a, m, cap, ss⟩ := ⟨_, _, _, _, rfl⟩
      have hcx := hc k hlt
      have hrk := hro k
      rw [he] at hcx hrk
      simp only [Src.val] at hcx hrk
      have HE : Hid (srcAt rows k = ⟨a2, m, cap2, ss⟩) := he
      clear hc he hro
      obtain ⟨hl2, hsz2, hrow2⟩ := hrk
      have HL2 : Hid (ss.length = m) := hl2
      clear hl2
      by_cases hm1 : 4096 < m
      · go_wp2
        go_ret
        exact ⟨TooBig.yes _ _, rfl⟩
      by_cases hm2 : 1048576 < r + 16 * m
      · go_wp2
        go_ret
        exact ⟨TooBig.yes _ _, rfl⟩
      go_wp2
      go_loop [3, 5] (fun t i => ∃ j : Nat, j ≤ m ∧ i = .int .i64 j ∧ ∃ r : Int, 0 ≤ r ∧ r ≤ 1048576 ∧ t = .int .i64 r) (fun _ i => m - (intOf i).toNat)
      case atStart => exact ⟨0, Nat.zero_le _, rfl, _, by omega, by omega, rfl⟩
      case round =>
        obtain ⟨j, hj, rfl, r2, hq0, hq1, rfl⟩ := hrel
        by_cases hlt2 : j < m
        · rcases hrow2 with h0 | ⟨b2, off2, rfl, hb2, hc2⟩
          · omega
          obtain ⟨s, hs⟩ : ∃ s, s = ss.getD j ByteArray.empty := ⟨_, rfl⟩
          have hcy := hc2 j hlt2
          have hss := size_getD hsz2 j
          rw [← hs] at hcy hss
          unfold maxLen at hss
          clear hc2 hs
          go_wp2
          all_goals first
            | (go_ret; exact ⟨TooBig.yes _ _, rfl⟩)
            | skip
          go_round
          case rel => exact ⟨j + 1, by omega, by go_num, _, by omega, by omega, rfl⟩
          case measure => simp [intOf]; omega
        · have e1 : j = m := by omega
          subst e1
          go_wp2
          go_round
          case rel => exact ⟨k + 1, by omega, by go_num, lensTo_step HT.out HE.out (by omega), _, by omega, by omega, rfl⟩
          case measure => simp [intOf]; omega
    · have e0 : k = n := by omega
      subst e0
      go_wp2
      go_ret
      exact ⟨TooBig.no (by omega) HL.out HT.out, rfl⟩

end Go.Proofs.Qxb6619298a
