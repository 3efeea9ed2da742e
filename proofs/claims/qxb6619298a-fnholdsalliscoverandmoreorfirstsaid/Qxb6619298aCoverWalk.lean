/-
  Seat b6619298a: the walk of FnHoldsAllIsCoverAndMoreOrFirst.
-/
import Derived.Test.Qxb6619298aCovers
import Derived.Test.Qxb6619298aFilled
import Derived.WalkSpells
import Derived.Deep.DeepCutAuto
namespace Go.Proofs.Qxb6619298a
open Go.RowKit Go.Maps Go.WideMaps

set_option maxHeartbeats 4000000 in
set_option maxRecDepth 100000 in
theorem cover_walk (a : Option Addr) (n cap : Nat) (ss : List ByteArray) (a' : Option Addr) (m cap' : Nat) (ts : List ByteArray) (first : Bool) (w : World)
    (hn : n ≤ maxLen) (hm : m ≤ maxLen) (hs : Strs w a n ss) (ht : Strs w a' m ts) (hnil : a = none → n = 0) (hnil' : a' = none → m = 0) :
    Calls Try.prog 5 #[.slice a n cap, .slice a' m cap', .bool first] w fun e w' => e = .returned (.bool true) ∧ Below w.heap.size w w' := by
  have hz := zzBytes16_any a n cap ss a' m cap' ts first w hn hm hs ht
  unfold maxLen at hn hm
  have hne := fun (u : World) (p : Option Addr) (c : Nat) => run_neq_slice_nil_any (P := Try.prog) u 29 9 p n c 0 0 Try.underlying29
  have hne' := fun (u : World) (p : Option Addr) (c : Nat) => run_neq_slice_nil_any (P := Try.prog) u 29 9 p m c 0 0 Try.underlying29
  by_cases hbig : 4096 < n
  · go_enter Try.func5, Try.ntmps5
    go_wp2_with fail
    refine hz.mono ?_
    rintro e w1 ⟨⟨r, rfl⟩, rfl⟩
    cases r
    · go_wp2_with fail
      go_ret
      exact ⟨rfl, Below.refl _ _⟩
    · go_wp2_with fail
      go_ret
      exact ⟨rfl, Below.refl _ _⟩
  by_cases hbig2 : 4096 < m
  · go_enter Try.func5, Try.ntmps5
    go_wp2_with fail
    refine hz.mono ?_
    rintro e w1 ⟨⟨r, rfl⟩, rfl⟩
    cases r
    · go_wp2_with fail
      go_ret
      exact ⟨rfl, Below.refl _ _⟩
    · go_wp2_with fail
      go_ret
      exact ⟨rfl, Below.refl _ _⟩
  have hmk := fun (u : World) => run_make29 n (by omega) n rfl u
  have hmk' := fun (u : World) => run_make29 m (by omega) m rfl u
  go_enter Try.func5, Try.ntmps5
  go_wp2_with fail
  refine hz.mono ?_
  clear hz
  rintro e w1 ⟨⟨r, rfl⟩, rfl⟩
  cases r
  · go_wp2_with fail
    go_ret
    exact ⟨rfl, Below.refl _ _⟩
  go_upto_if 26 with fail
  go_cut [0] (fun s0 w2 => ∃ (a2 : Option Addr) (cap2 : Nat), s0 = .slice a2 n cap2 ∧ Strs w2 a2 n ss ∧ Below w1.heap.size w1 w2)
  case first =>
    cases a with
    | none =>
      obtain rfl : n = 0 := hnil rfl
      clear hnil hnil'
      go_wp2_with fail
      go_meet
      case rel => exact ⟨none, cap, rfl, hs, Below.refl _ _⟩
    | some ad =>
      have hsz := hs.2.1
      have HL : Hid (ss.length = n) := hs.1
      obtain ⟨w2, hcp, hf2, hB2⟩ := run_copy29 w1 ad n cap ss hs
      clear hnil hnil'
      go_wp2_with fail
      go_meet
      case rel => exact ⟨_, _, rfl, hf2.strs HL.out hsz, hB2⟩
  case rest =>
    obtain ⟨w2, rfl⟩ : ∃ w2 : World, w2 = wc := ⟨_, rfl⟩
    obtain ⟨a2, cap2, rfl, hs2, hb2⟩ := hcut
    have ht2 := ht.below hb2
    clear hs ht hmk hne hnil
    go_upto_if 35 with fail
    go_cut [1] (fun s1 w3 => ∃ (a3 : Option Addr) (cap3 : Nat), s1 = .slice a3 m cap3 ∧ Strs w3 a3 m ts ∧ Below w2.heap.size w2 w3)
    case first =>
      cases a' with
      | none =>
        obtain rfl : m = 0 := hnil' rfl
        clear hnil'
        go_wp2_with fail
        go_meet
        case rel => exact ⟨none, cap', rfl, ht2, Below.refl _ _⟩
      | some ad =>
        have hsz := ht2.2.1
        have HL : Hid (ts.length = m) := ht2.1
        obtain ⟨w3, hcp, hf3, hB3⟩ := run_copy29 w2 ad m cap' ts ht2
        clear hnil'
        go_wp2_with fail
        go_meet
        case rel => exact ⟨_, _, rfl, hf3.strs HL.out hsz, hB3⟩
    case rest =>
      obtain ⟨a3, cap3, rfl, ht3, hb3⟩ := hcut
      have hs3 := hs2.below hb3
      have hbb3 : Below w1.heap.size w1 wc := hb2.trans (hb3.mono hb2.size)
      clear ht2 hs2 hb2 hb3 hmk' hne' hnil'
      obtain ⟨w3, rfl⟩ : ∃ w3 : World, w3 = wc := ⟨_, rfl⟩
      go_wp2_with fail
      refine (stringsBytes_any a2 n cap2 ss 0 w3 (by omega) (by omega) (by omega) hs3).mono ?_
      rintro e w4 ⟨⟨r, hr0, hr1, rfl⟩, rfl⟩
      go_wp2_with fail
      refine (stringsBytes_any a3 m cap3 ts r w4 (by omega) (by omega) (by omega) ht3).mono ?_
      rintro e w5 ⟨⟨r2, hq0, hq1, rfl⟩, rfl⟩
      by_cases hr : 1048576 < r2
      · go_wp2_with fail
        go_ret
        exact ⟨rfl, hbb3⟩
      go_wp2_with fail
      refine (zzHoldsAll_any a2 n cap2 ss a3 m cap3 ts first w5 (by omega) (by omega) hs3 ht3).mono ?_
      rintro e w6 ⟨rfl, hb6⟩
      have hc6 := covers_any a2 n cap2 ss a3 m cap3 ts w6 (by omega) (by omega) (hs3.below hb6) (ht3.below hb6)
      have hx6 := extra_any a2 n cap2 ss a3 m cap3 ts w6 (by omega) (by omega) (hs3.below hb6) (ht3.below hb6)
      have hbb6 : Below w5.heap.size w5 w6 := hb6
      clear hs3 ht3 hb6
      rw [holdsB_eq]
      generalize coversB ss ts = cb at hc6 ⊢
      generalize extraB ss ts = xb at hx6 ⊢
      cases cb <;> cases xb <;> cases first <;>
        (go_wp2_with (first | (go_at_call 19; refine hc6.mono ?_; rintro e w7 ⟨rfl, rfl⟩) | (go_at_call 20; refine hx6.mono ?_; rintro e w7 ⟨rfl, rfl⟩))
         go_ret
         exact ⟨rfl, hbb3.trans (hbb6.mono hbb3.size)⟩)

end Go.Proofs.Qxb6619298a
