/-
  Seat b6619298a: the walk of FnHoldsAllSelfAndOneMore.
-/
import Derived.Test.Qxb6619298aFilled
import Derived.WalkSpells
import Derived.Deep.DeepCutAuto
namespace Go.Proofs.Qxb6619298a
open Go.RowKit Go.Maps Go.WideMaps

theorem ss_getD_left {ss : List ByteArray} {x : ByteArray} {k n : Nat} (hl : ss.length = n) (hk : k < n) : (ss ++ [x]).getD k ByteArray.empty = ss.getD k ByteArray.empty := by
  simp [List.getD, List.getElem?_append, show k < ss.length by omega]
theorem ss_getD_last {ss : List ByteArray} {x : ByteArray} {n : Nat} (hl : ss.length = n) : (ss ++ [x]).getD n ByteArray.empty = x := by
  subst hl; simp [List.getD]
theorem keysOf_snoc (ss : List ByteArray) (x : ByteArray) : keysOf (ss ++ [x]) = keysOf ss ++ [x.data.toList] := by simp [keysOf]

/-- The part of the walk behind the copy: 'have' reads as ss in w. -/
theorem zzSelf (a : Option Addr) (n cap : Nat) (ss : List ByteArray) (first : Bool) (w : World) (hn : n ≤ 8192) (h1 : Strs w a n ss) :
    Calls Try.prog 18 #[.slice a n cap, .slice a n cap, .bool first] w fun e w' => e = .returned (.bool first) ∧ Below w.heap.size w w' := by
  refine (zzHoldsAll_any a n cap ss a n cap ss first w (by omega) (by omega) h1 h1).mono ?_
  rintro e w' ⟨rfl, hb⟩
  exact ⟨ret_bool (Lode.holds_self _ _), hb⟩
theorem zzGrown (a : Option Addr) (n cap : Nat) (ss : List ByteArray) (a' : Option Addr) (m cap' : Nat) (x : ByteArray) (w : World) (hn : n ≤ 8192) (hm : m ≤ 8192) (h1 : Strs w a n ss) (h2 : Strs w a' m (ss ++ [x])) :
    Calls Try.prog 18 #[.slice a' m cap', .slice a n cap, .bool false] w fun e w' => e = .returned (.bool (!inB ss x)) ∧ Below w.heap.size w w' := by
  refine (zzHoldsAll_any a' m cap' _ a n cap ss false w (by omega) (by omega) h2 h1).mono ?_
  rintro e w' ⟨rfl, hb⟩
  exact ⟨ret_bool (by unfold holdsB inB; rw [keysOf_snoc]; exact Lode.holds_grown _ _), hb⟩
theorem zzShrunk (a : Option Addr) (n cap : Nat) (ss : List ByteArray) (a' : Option Addr) (m cap' : Nat) (x : ByteArray) (w : World) (hn : n ≤ 8192) (hm : m ≤ 8192) (h1 : Strs w a n ss) (h2 : Strs w a' m (ss ++ [x])) :
    Calls Try.prog 18 #[.slice a n cap, .slice a' m cap', .bool false] w fun e w' => e = .returned (.bool false) ∧ Below w.heap.size w w' := by
  refine (zzHoldsAll_any a n cap ss a' m cap' _ false w (by omega) (by omega) h1 h2).mono ?_
  rintro e w' ⟨rfl, hb⟩
  exact ⟨ret_bool (by unfold holdsB; rw [keysOf_snoc]; exact Lode.holds_shrunk _ _), hb⟩

set_option maxHeartbeats 2000000 in
set_option maxRecDepth 100000 in
theorem self_walk (a : Option Addr) (n cap : Nat) (ss : List ByteArray) (x : ByteArray) (first : Bool) (w : World) (hn : n ≤ maxLen) (hx : x.size ≤ maxLen) (hs : Strs w a n ss) (hnil : a = none → n = 0) :
    Calls Try.prog 6 #[.slice a n cap, .string x, .bool first] w fun e w' => e = .returned (.bool true) ∧ Below w.heap.size w w' := by
  have hz21 := zzBytes21_any a n cap ss x first w hn hx hs
  unfold maxLen at hn hx
  have hne := fun (u : World) (p : Option Addr) (c : Nat) => run_neq_slice_nil_any (P := Try.prog) u 29 9 p n c 0 0 Try.underlying29
  by_cases hbig : 4096 < n
  · go_enter Try.func6, Try.ntmps6
    go_wp2_with fail
    refine hz21.mono ?_
    rintro e w1 ⟨⟨r, rfl⟩, rfl⟩
    cases r
    · go_wp2_with fail
      go_ret
      exact ⟨rfl, Below.refl _ _⟩
    · go_wp2_with fail
      go_ret
      exact ⟨rfl, Below.refl _ _⟩
  by_cases hbx : 1048576 < x.size
  · go_enter Try.func6, Try.ntmps6
    go_wp2_with fail
    refine hz21.mono ?_
    rintro e w1 ⟨⟨r, rfl⟩, rfl⟩
    cases r
    · go_wp2_with fail
      go_ret
      exact ⟨rfl, Below.refl _ _⟩
    · go_wp2_with fail
      go_ret
      exact ⟨rfl, Below.refl _ _⟩
  have hsb := stringsBytes_any a n cap ss x.size w (by omega) (by omega) (by omega) hs
  have hmk := fun (u : World) => run_make29 n (by omega) n rfl u
  go_enter Try.func6, Try.ntmps6
  go_wp2_with fail
  refine hz21.mono ?_
  clear hz21
  rintro e w1 ⟨⟨r, rfl⟩, rfl⟩
  cases r
  · clear hsb
    go_wp2_with fail
    go_ret
    exact ⟨rfl, Below.refl _ _⟩
  go_wp2_with fail
  refine hsb.mono ?_
  clear hsb
  rintro e w1 ⟨⟨r, hr0, hr1, rfl⟩, rfl⟩
  by_cases hr : 1048576 < r
  · go_wp2_with fail
    go_ret
    exact ⟨rfl, Below.refl _ _⟩
  have h0 : ¬ 1048576 < r := hr
  go_upto_if 32 with fail
  go_cut [0] (fun s0 w2 => ∃ (a2 : Option Addr) (cap2 : Nat), s0 = .slice a2 n cap2 ∧ Strs w2 a2 n ss ∧ Below w1.heap.size w1 w2)
  case first =>
    cases a with
    | none =>
      obtain rfl : n = 0 := hnil rfl
      go_wp2_with fail
      go_meet
      case rel => exact ⟨none, cap, rfl, hs, Below.refl _ _⟩
    | some ad =>
      have hl := hs.1
      have hsz := hs.2.1
      obtain ⟨w2, hcp, hf2, hB2⟩ := run_copy29 w1 ad n cap ss hs
      have HL : Hid (ss.length = n) := hl
      clear hl
      go_wp2_with fail
      go_meet
      case rel => exact ⟨_, _, rfl, hf2.strs HL.out hsz, hB2⟩
  case rest =>
    obtain ⟨a2, cap2, rfl, hs2, hb2⟩ := hcut
    clear hs hmk hne hnil
    go_wp2_with fail
    refine (zzSelf a2 n cap2 ss first _ (by omega) hs2).mono ?_
    rintro e w3 ⟨rfl, hb3⟩
    have hs3 := hs2.below hb3
    have hbb3 : Below w1.heap.size w1 w3 := hb2.trans (hb3.mono hb2.size)
    clear hb3 hs2 hb2
    have hmk := fun (u : World) => run_make29 (n + 1) (by omega) (n + 1) (by omega) u
    have hbA : Below w1.heap.size w1 (w3.alloc (.cells (blank (n + 1)) 9)) := hbb3.alloc hbb3.size _
    have hsA : Strs (w3.alloc (.cells (blank (n + 1)) 9)) a2 n ss := hs3.below ((Below.refl _ _).alloc (Nat.le_refl _) _)
    have hfA : Filled (w3.alloc (.cells (blank (n + 1)) 9)) w3.heap.size (n + 1) (ss ++ [x]) 0 := Filled.made _ _ _ _
    go_wp2_with fail
    go_loopw [10] (fun i wr => ∃ k : Nat, k ≤ n ∧ i = .int .i64 k ∧ Filled wr w3.heap.size (n + 1) (ss ++ [x]) k ∧ Below w3.heap.size w3 wr) (fun i _ => n - (intOf i).toNat)
    case atStart => exact ⟨0, Nat.zero_le _, rfl, hfA, (Below.refl _ _).alloc (Nat.le_refl _) _⟩
    case round =>
      obtain ⟨k, hk, rfl, hf, hb⟩ := hrel
      clear hfA hsA hbA hmk
      by_cases hlt : k < n
      · obtain ⟨hl, hsz, hrow⟩ := hs3
        have HL : Hid (ss.length = n) := hl
        clear hl
        rcases hrow with h0 | ⟨b, off, rfl, hbl, hc⟩
        · omega
        obtain ⟨s, hs0⟩ : ∃ s, s = ss.getD k ByteArray.empty := ⟨_, rfl⟩
        have hcx : wr.cell? ⟨b, off + k, none⟩ = some (.string s) := by rw [hs0]; exact (hb.cell (by exact hbl)).trans (hc k hlt)
        have HS : Hid (s = ss.getD k ByteArray.empty) := hs0
        clear hc hs0
        obtain ⟨v, hv⟩ := hf.any (j := k) (by omega)
        have hfz := hf.frozen k
        go_wp2_with fail
        go_roundw
        case rel => exact ⟨k + 1, by omega, by go_num, hf.set (by omega) (by rw [ss_getD_left HL.out hlt]; exact HS.out), hb.setCell (Nat.le_refl _) _⟩
        case measure => simp [intOf]; omega
      · have e0 : k = n := by omega
        subst e0
        have hl := hs3.1
        have hsz := hs3.2.1
        obtain ⟨v, hv⟩ := hf.any (j := k) (by omega)
        have hfz := hf.frozen k
        have hf2 : Filled (wr.setCell ⟨w3.heap.size, k, none⟩ (.string x)) w3.heap.size (k + 1) (ss ++ [x]) (k + 1) := hf.set (by omega) (ss_getD_last hl).symm
        have hb2 : Below w3.heap.size w3 (wr.setCell ⟨w3.heap.size, k, none⟩ (.string x)) := hb.setCell (Nat.le_refl _) _
        have hsE : Strs (wr.setCell ⟨w3.heap.size, k, none⟩ (.string x)) (some ⟨w3.heap.size, 0, none⟩) (k + 1) (ss ++ [x]) := hf2.strs (by simp [hl]) (fun s hs => by
          rcases List.mem_append.1 hs with hs | hs
          · exact hsz s hs
          · rw [List.mem_singleton.1 hs]; unfold maxLen; omega)
        have hsH := hs3.below hb2
        have hbW : Below w1.heap.size w1 (wr.setCell ⟨w3.heap.size, k, none⟩ (.string x)) := hbb3.trans (hb2.mono hbb3.size)
        clear hs3 hb2 hb hf2 hf hl hsz hbb3
        generalize hwe : wr.setCell ⟨w3.heap.size, k, none⟩ (.string x) = we at *
        have HW : Hid (wr.setCell ⟨w3.heap.size, k, none⟩ (.string x) = we) := hwe
        clear hwe
        go_wp2_with fail
        rw [HW.out]
        clear HW hv hfz
        refine (zzGrown a2 k cap2 ss (some ⟨w3.heap.size, 0, none⟩) (k + 1) (k + 1) x we (by omega) (by omega) hsH hsE).mono ?_
        rintro e w5 ⟨rfl, hb5⟩
        have hsH5 := hsH.below hb5
        have hsE5 := hsE.below hb5
        have hbW5 : Below w1.heap.size w1 w5 := hbW.trans (hb5.mono hbW.size)
        clear hsH hsE hbW hb5
        go_wp2_with fail
        refine (zzShrunk a2 k cap2 ss (some ⟨w3.heap.size, 0, none⟩) (k + 1) (k + 1) x w5 (by omega) (by omega) hsH5 hsE5).mono ?_
        rintro e w6 ⟨rfl, hb6⟩
        have hin := in_any a2 k cap2 ss x w6 (by omega) (hsH5.below hb6)
        have hbW6 : Below w1.heap.size w1 w6 := hbW5.trans (hb6.mono hbW5.size)
        clear hsH5 hsE5 hbW5 hb6
        generalize inB ss x = gb at hin ⊢
        go_wp2_with (go_at_call 22; refine hin.mono ?_; rintro e w7 ⟨rfl, rfl⟩)
        go_ret
        exact ⟨rfl, hbW6⟩

end Go.Proofs.Qxb6619298a
