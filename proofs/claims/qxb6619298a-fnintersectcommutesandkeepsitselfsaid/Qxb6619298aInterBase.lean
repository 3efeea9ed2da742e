/-
  Seat b6619298a: slices of uint32: shapes, and the walks of zzB1Ascending, zzB1SortedHas, zzB1EqualU32, zzB1CloneU32 and the two byte guards.
-/
import Derived.Test.Qxb6619298aRows
import Derived.Test.Qxb6619298aInterPlain
import Derived.WalkKit
import Derived.WalkLawsBesides
import Derived.WalkSpells
import Derived.OpenShut
import Derived.Below
import Derived.Carry
import Derived.Laws.MakeOwn
import Derived.Deep.QuietTactic
import Derived.BigQuiet
namespace Go.Proofs.Qxb6619298a
open Go.RowKit

/-- A slice of uint32 in w: xs are its elements. -/
def U32s (w : World) (p : Option Addr) (n : Nat) (xs : List Int) : Prop :=
  xs.length = n ∧ (n = 0 ∨ ∃ b off, p = some ⟨b, off, none⟩ ∧ b < w.heap.size ∧ ∀ j, j < n → w.cell? ⟨b, off + j, none⟩ = some (.int .u32 (xs.getD j 0)))
theorem U32s.below {w w' : World} {p : Option Addr} {n : Nat} {xs : List Int} (h : U32s w p n xs) (hb : Below w.heap.size w w') : U32s w' p n xs := by
  obtain ⟨h1, h3⟩ := h
  refine ⟨h1, ?_⟩
  rcases h3 with h3 | ⟨b, off, e, hlt, hc⟩
  · exact .inl h3
  · exact .inr ⟨b, off, e, Nat.lt_of_lt_of_le hlt hb.size, fun j hj => (hb.cell (p := ⟨b, off + j, none⟩) hlt).trans (hc j hj)⟩

theorem retB {a b : Bool} (h : a = b) : Ending.returned (.bool a) = .returned (.bool b) := by rw [h]

/-- Does every number stand below the next? -/
def ascTo (xs : List Int) (k : Nat) : Prop := ∀ j, j < k → xs.getD j 0 < xs.getD (j + 1) 0
/-- What zzB1Ascending leaves: true just where the list ascends. -/
def AscPost (w : World) (xs : List Int) (e : Ending) (w' : World) : Prop := ∃ r : Bool, e = .returned (.bool r) ∧ (r = true → Lode.Asc xs) ∧ (Lode.Asc xs → r = true) ∧ Below w.heap.size w w'
theorem AscPost.yes {w w' : World} {xs : List Int} (h : Lode.Asc xs) (hb : Below w.heap.size w w') : AscPost w xs (.returned (.bool true)) w' := ⟨true, rfl, fun _ => h, fun _ => rfl, hb⟩
theorem AscPost.no {w w' : World} {xs : List Int} {k : Nat} (hk : k + 1 < xs.length) (h : ¬ xs.getD k 0 < xs.getD (k + 1) 0) (hb : Below w.heap.size w w') : AscPost w xs (.returned (.bool false)) w' :=
  ⟨false, rfl, fun h => (by cases h), fun ha => absurd (ha k (k + 1) (by omega) hk) h, hb⟩

set_option maxHeartbeats 1000000 in
set_option maxRecDepth 100000 in
theorem asc_any (p : Option Addr) (n cap : Nat) (xs : List Int) (w : World) (hn : n ≤ 4611686018427387904) (hs : U32s w p n xs) :
    Calls Try.prog 10 #[.slice p n cap] w fun e w' => AscPost w xs e w' := by
  obtain ⟨hl, hrow⟩ := hs
  have HL : Hid (xs.length = n) := hl
  clear hl
  go_enter Try.func10, Try.ntmps10
  go_wp2_with fail
  go_loopw [3] (fun i wr => ∃ k : Nat, i = .int .i64 ((k : Int) + 1) ∧ (k = 0 ∨ k + 1 ≤ n) ∧ Hid (ascTo xs k) ∧ Below w.heap.size w wr) (fun i _ => n - (intOf i).toNat)
  case atStart => exact ⟨0, rfl, .inl rfl, fun _ h => absurd h (Nat.not_lt_zero _), Below.refl _ _⟩
  case round =>
    obtain ⟨k, rfl, hk, HA, hb⟩ := hrel
    by_cases hlt : k + 1 < n
    · rcases hrow with h0 | ⟨b, off, rfl, hbl, hc⟩
      · omega
      obtain ⟨x, hx⟩ : ∃ x, x = xs.getD k 0 := ⟨_, rfl⟩
      obtain ⟨y, hy⟩ : ∃ y, y = xs.getD (k + 1) 0 := ⟨_, rfl⟩
      have c1 : wr.cell? ⟨b, off + k, none⟩ = some (.int .u32 x) := by rw [hx]; exact (hb.cell (by exact hbl)).trans (hc k (by omega))
      have c2 : wr.cell? ⟨b, off + (k + 1), none⟩ = some (.int .u32 y) := by rw [hy]; exact (hb.cell (by exact hbl)).trans (hc (k + 1) hlt)
      have HX : Hid (x = xs.getD k 0) := hx
      have HY : Hid (y = xs.getD (k + 1) 0) := hy
      clear hc hx hy
      have i1 : (k : Int) + 1 < (n : Int) := by omega
      have i0 : (k : Int) < (n : Int) := by omega
      by_cases hge : y ≤ x
      · go_wp2_with fail
        go_quiet (fail)
        go_wp2_with fail
        go_ret
        exact AscPost.no (k := k) (by rw [HL.out]; exact hlt) (by rw [← HX.out, ← HY.out]; omega) (below_drewN hb nq)
      · go_wp2_with fail
        go_quiet (fail)
        go_wp2_with fail
        go_roundw
        case rel => exact ⟨k + 1, by go_num, .inr (by omega), fun j hj => by
          by_cases e : j = k
          · subst e; rw [← HX.out, ← HY.out]; omega
          · exact HA.out j (by omega), below_drewN hb nq⟩
        case measure => simp [intOf]; omega
    · go_wp2_with fail
      go_ret
      exact AscPost.yes (Lode.asc_of_next (fun j hj => HA.out j (by rw [HL.out] at hj; omega))) hb

/-! ### zzB1SortedHas -/
def hasU (ys : List Int) (x : Int) : Bool := decide (x ∈ ys)
theorem hasU_yes {ys : List Int} {x : Int} {l : Nat} (hl : l < ys.length) (he : ys.getD l 0 = x) : hasU ys x = true := decide_eq_true (by rw [← he]; exact Lode.mem_getD hl)

set_option maxHeartbeats 1000000 in
set_option maxRecDepth 100000 in
theorem has_any (p : Option Addr) (n cap : Nat) (ys : List Int) (x : Int) (w : World) (hn : n ≤ 4611686018427387904) (hs : U32s w p n ys) (hy : Lode.Asc ys) :
    Calls Try.prog 13 #[.slice p n cap, .int .u32 x] w fun e w' => e = .returned (.bool (hasU ys x)) ∧ w' = w := by
  obtain ⟨hl, hrow⟩ := hs
  have HL : Hid (ys.length = n) := hl
  clear hl
  go_enter Try.func13, Try.ntmps13
  go_wp2_with fail
  go_loop [5, 6] (fun lo hi => ∃ l h : Nat, l ≤ h ∧ h ≤ n ∧ lo = .int .i64 l ∧ hi = .int .i64 h ∧ Hid (Lode.Between ys x l h)) (fun lo hi => (intOf hi).toNat - (intOf lo).toNat)
  case atStart => exact ⟨0, n, Nat.zero_le _, Nat.le_refl _, rfl, rfl, by have := Lode.between_start ys x; rw [HL.out] at this; exact this⟩
  case round =>
    obtain ⟨l, h, hlh, hh, rfl, rfl, HB⟩ := hrel
    by_cases hlt : l < h
    · rcases hrow with h0 | ⟨b, off, rfl, hbl, hc⟩
      · omega
      obtain ⟨y, hye⟩ : ∃ y, y = ys.getD (l + (h - l) / 2) 0 := ⟨_, rfl⟩
      have hcx : w.cell? ⟨b, off + (l + (h - l) / 2), none⟩ = some (.int .u32 y) := by rw [hye]; exact hc _ (by omega)
      have HY : Hid (y = ys.getD (l + (h - l) / 2) 0) := hye
      clear hc hye
      by_cases hyx : y < x
      · go_wp2_with fail
        go_round
        case rel => exact ⟨l + (h - l) / 2 + 1, h, by omega, hh, by go_num, rfl, HB.out.up hy (by rw [HL.out]; omega) (by rw [← HY.out]; exact hyx)⟩
        case measure => simp only [intOf]; omega
      · go_wp2_with fail
        go_round
        case rel => exact ⟨l, l + (h - l) / 2, by omega, by omega, rfl, by go_num, HB.out.down hy (by rw [← HY.out]; omega)⟩
        case measure => simp only [intOf]; omega
    · obtain rfl : l = h := by omega
      by_cases hln : l < n
      · rcases hrow with h0 | ⟨b, off, rfl, hbl, hc⟩
        · omega
        obtain ⟨y, hye⟩ : ∃ y, y = ys.getD l 0 := ⟨_, rfl⟩
        have hcx : w.cell? ⟨b, off + l, none⟩ = some (.int .u32 y) := by rw [hye]; exact hc _ hln
        have HY : Hid (y = ys.getD l 0) := hye
        clear hc hye
        by_cases hyx : y = x
        · subst hyx
          have HF : Hid (hasU ys y = true) := hasU_yes (by rw [HL.out]; exact hln) HY.out.symm
          go_wp2_with fail
          go_ret
          exact ⟨retB HF.out.symm, rfl⟩
        · have hne : (y == x) = false := beq_eq_false_iff_ne.2 hyx
          have HF : Hid (hasU ys x = false) := decide_eq_false (HB.out.no hy (by rw [HL.out]; exact hln) (by rw [← HY.out]; exact hyx))
          go_wp2_with fail
          go_ret
          exact ⟨retB HF.out.symm, rfl⟩
      · have HF : Hid (hasU ys x = false) := decide_eq_false (HB.out.out (by rw [HL.out]; omega))
        go_wp2_with fail
        go_ret
        exact ⟨retB HF.out.symm, rfl⟩

/-! ### zzB1EqualU32 -/
/-- What zzB1EqualU32 leaves on equal lists. -/
def EqPost (w : World) (e : Ending) (w' : World) : Prop := e = .returned (.bool true) ∧ Below w.heap.size w w'

set_option maxHeartbeats 1000000 in
set_option maxRecDepth 100000 in
theorem equal_any (p : Option Addr) (n cap : Nat) (p' : Option Addr) (cap' : Nat) (xs : List Int) (w : World) (hn : n ≤ 4611686018427387904) (h1 : U32s w p n xs) (h2 : U32s w p' n xs) :
    Calls Try.prog 15 #[.slice p n cap, .slice p' n cap'] w fun e w' => EqPost w e w' := by
  obtain ⟨hl, hrow⟩ := h1
  obtain ⟨_, hrow2⟩ := h2
  have HL : Hid (xs.length = n) := hl
  clear hl
  have hnn : ((n : Int) != (n : Int)) = false := by simp
  go_enter Try.func15, Try.ntmps15
  go_wp2_with fail
  go_loopw [5] (fun i wr => ∃ k : Nat, k ≤ n ∧ i = .int .i64 k ∧ Below w.heap.size w wr) (fun i _ => n - (intOf i).toNat)
  case atStart => exact ⟨0, Nat.zero_le _, rfl, Below.refl _ _⟩
  case round =>
    obtain ⟨k, hk, rfl, hb⟩ := hrel
    by_cases hlt : k < n
    · rcases hrow with h0 | ⟨b, off, rfl, hbl, hc⟩
      · omega
      rcases hrow2 with h0 | ⟨b2, off2, rfl, hbl2, hc2⟩
      · omega
      obtain ⟨x, hx⟩ : ∃ x, x = xs.getD k 0 := ⟨_, rfl⟩
      have c1 : wr.cell? ⟨b, off + k, none⟩ = some (.int .u32 x) := by rw [hx]; exact (hb.cell (by exact hbl)).trans (hc k hlt)
      have c2 : wr.cell? ⟨b2, off2 + k, none⟩ = some (.int .u32 x) := by rw [hx]; exact (hb.cell (by exact hbl2)).trans (hc2 k hlt)
      clear hc hc2 hx
      have hxx : (x != x) = false := by simp
      have i1 : (k : Int) < (n : Int) := by omega
      go_wp2_with fail
      go_quiet (fail)
      go_wp2_with fail
      go_roundw
      case rel => exact ⟨k + 1, by omega, by go_num, below_drewN hb nq⟩
      case measure => simp [intOf]; omega
    · have e0 : k = n := by omega
      subst e0
      go_wp2_with fail
      go_ret
      exact ⟨rfl, hb⟩

/-! ### zzB1CloneU32 -/
/-- Block B of w is a row of n numbers (type 28), none frozen: outs at its head, xs from i on. -/
def TwoRow (w : World) (B n : Nat) (outs xs : List Int) (i : Nat) : Prop :=
  ∃ cur : Array Value, w.heap[B]? = some (.cells cur 28 (0, 0)) ∧ cur.size = n ∧ outs.length ≤ i ∧ (∀ t, t < outs.length → cur[t]? = some (.int .u32 (outs.getD t 0))) ∧ ∀ t, i ≤ t → t < n → cur[t]? = some (.int .u32 (xs.getD t 0))
/-- Block B of w is a row of n numbers; the first k are those of xs. -/
def FilledU (w : World) (B n : Nat) (xs : List Int) (k : Nat) : Prop :=
  ∃ cur : Array Value, w.heap[B]? = some (.cells cur 28 (0, 0)) ∧ cur.size = n ∧ ∀ t, t < k → cur[t]? = some (.int .u32 (xs.getD t 0))
theorem FilledU.any {w : World} {B n : Nat} {xs : List Int} {k : Nat} (h : FilledU w B n xs k) {j : Nat} (hj : j < n) : ∃ v, w.cell? ⟨B, j, none⟩ = some v := by
  obtain ⟨cur, hb, hs, _⟩ := h
  exact ⟨cur[j]'(by omega), by simp [World.cell?, hb, show j < cur.size by omega]⟩
theorem FilledU.frozen {w : World} {B n : Nat} {xs : List Int} {k : Nat} (h : FilledU w B n xs k) (j : Nat) : w.frozen? ⟨B, j, none⟩ = false := by
  obtain ⟨cur, hb, _⟩ := h
  simp [World.frozen?, hb]
theorem FilledU.set {w : World} {B n : Nat} {xs : List Int} {k : Nat} (h : FilledU w B n xs k) (hk : k < n) {x : Int} (hx : x = xs.getD k 0) : FilledU (w.setCell ⟨B, k, none⟩ (.int .u32 x)) B n xs (k + 1) := by
  obtain ⟨cur, hb, hsz, hc⟩ := h
  refine ⟨cur.setIfInBounds k (.int .u32 x), ?_, by simp [hsz], ?_⟩
  · rw [setCell_eq_setRow w B k cur 28 (0, 0) (.int .u32 x) hb]
    exact setRow_heap w B cur _ 28 _ hb
  · intro j hj
    by_cases e : j = k
    · subst e
      rw [Array.getElem?_setIfInBounds_self, if_pos (by omega), hx]
    · rw [Array.getElem?_setIfInBounds_ne (by omega)]
      exact hc j (by omega)
theorem FilledU.two {w : World} {B n : Nat} {xs : List Int} (h : FilledU w B n xs n) : TwoRow w B n [] xs 0 := by
  obtain ⟨cur, hb, hs, hc⟩ := h
  exact ⟨cur, hb, hs, Nat.zero_le _, fun t ht => absurd ht (Nat.not_lt_zero _), fun t _ ht => hc t ht⟩
def blankU (n : Nat) : Array Value := madeCells #[.int .u32 0] n
theorem FilledU.made (w : World) (n : Nat) (xs : List Int) : FilledU (w.alloc (.cells (blankU n) 28)) w.heap.size n xs 0 :=
  ⟨_, (MapKept.heap_alloc w _).1, size_madeCells _ _, fun _ hj => absurd hj (Nat.not_lt_zero _)⟩
theorem info28 : (Try.prog.info? 28).map (fun i => (i.zero, i.size, i.bytes)) = some (some (.int .u32 0), 1, 4) := by kernel_rfl
theorem run_make22 (n : Nat) (hn : n ≤ 1048576) (w : World) : (Instr.makeSlice 22 (.int .i64 n) (.int .i64 n)).run Try.prog w = .ok (.slice (some ⟨w.heap.size, 0, none⟩) n n) (w.alloc (.cells (blankU n) 28)) := by
  obtain ⟨i, hi, hz, hs, hb⟩ := info_parts info28
  have := run_make (P := Try.prog) w 22 28 i _ Try.underlying22 hi hz .i64 .i64 n n (by omega) (by omega) (by rw [hb]; omega) (by omega)
  rw [this, hs]
  simp [blankU, Value.cells]

/-- A clone of the call's own: nothing, or a whole row from block base on. -/
def Cloned (w : World) (base : Nat) (p : Option Addr) (n : Nat) (xs : List Int) : Prop := xs.length = n ∧ (n = 0 ∨ ∃ B, p = some ⟨B, 0, none⟩ ∧ base ≤ B ∧ B < w.heap.size ∧ TwoRow w B n [] xs 0)
def ClonePost (w : World) (n : Nat) (xs : List Int) (e : Ending) (w' : World) : Prop := ∃ p, e = .returned (.slice p n n) ∧ Cloned w' w.heap.size p n xs ∧ Below w.heap.size w w'
theorem TwoRow.below {w w' : World} {B n : Nat} {outs xs : List Int} {i B' : Nat} (h : TwoRow w B n outs xs i) (hb : Below B' w w') (hlt : B < B') : TwoRow w' B n outs xs i := by
  obtain ⟨cur, hb', r⟩ := h
  exact ⟨cur, (hb.block B hlt).trans hb', r⟩
theorem Cloned.below {w w' : World} {base : Nat} {p : Option Addr} {n : Nat} {xs : List Int} (h : Cloned w base p n xs) (hb : Below w.heap.size w w') : Cloned w' base p n xs := by
  obtain ⟨h1, h2⟩ := h
  refine ⟨h1, ?_⟩
  rcases h2 with h2 | ⟨B, e, hB, hlt, ht⟩
  · exact .inl h2
  · exact .inr ⟨B, e, hB, Nat.lt_of_lt_of_le hlt hb.size, ht.below hb hlt⟩

set_option maxHeartbeats 1000000 in
set_option maxRecDepth 100000 in
theorem clone_any (p : Option Addr) (n cap : Nat) (xs : List Int) (w : World) (hn : n ≤ 1048576) (hs : U32s w p n xs) (hnil : p = none → n = 0) :
    Calls Try.prog 12 #[.slice p n cap] w fun e w' => ClonePost w n xs e w' := by
  have hne := fun (u : World) (q : Option Addr) (c : Nat) => Lib.run_eql_slice_nil (P := Try.prog) u 22 28 q n c 0 0 Try.underlying22
  cases p with
  | none =>
    obtain rfl : n = 0 := hnil rfl
    clear hnil
    go_enter Try.func12, Try.ntmps12
    go_wp2_with fail
    go_ret
    exact ⟨none, rfl, ⟨hs.1, .inl rfl⟩, Below.refl _ _⟩
  | some ad =>
    obtain ⟨hl, hrow⟩ := hs
    have HL : Hid (xs.length = n) := hl
    clear hl hnil
    have hmk := fun (u : World) => run_make22 n hn u
    have hfA : FilledU (w.alloc (.cells (blankU n) 28)) w.heap.size n xs 0 := FilledU.made _ _ _
    go_enter Try.func12, Try.ntmps12
    go_wp2_with fail
    go_loopw [4] (fun i wr => ∃ k : Nat, k ≤ n ∧ i = .int .i64 k ∧ FilledU wr w.heap.size n xs k ∧ Below w.heap.size w wr ∧ w.heap.size < wr.heap.size) (fun i _ => n - (intOf i).toNat)
    case atStart => exact ⟨0, Nat.zero_le _, rfl, hfA, (Below.refl _ _).alloc (Nat.le_refl _) _, by simp⟩
    case round =>
      obtain ⟨k, hk, rfl, hf, hb, hw⟩ := hrel
      clear hfA hmk
      by_cases hlt : k < n
      · rcases hrow with h0 | ⟨b, off, e, hbl, hc⟩
        · omega
        cases e
        obtain ⟨x, hx⟩ : ∃ x, x = xs.getD k 0 := ⟨_, rfl⟩
        have c1 : wr.cell? ⟨b, off + k, none⟩ = some (.int .u32 x) := by rw [hx]; exact (hb.cell (by exact hbl)).trans (hc k hlt)
        have HX : Hid (x = xs.getD k 0) := hx
        clear hc hx
        obtain ⟨v, hv⟩ := hf.any (j := k) hlt
        have hfz := hf.frozen k
        go_wp2_with fail
        go_roundw
        case rel => exact ⟨k + 1, by omega, by go_num, hf.set hlt HX.out, hb.setCell (Nat.le_refl _) _, by simpa [World.setCell] using hw⟩
        case measure => simp [intOf]; omega
      · have e0 : k = n := by omega
        subst e0
        go_wp2_with fail
        go_ret
        exact ⟨_, rfl, ⟨HL.out, .inr ⟨w.heap.size, rfl, Nat.le_refl _, hw, hf.two⟩⟩, hb⟩

/-! ### the byte guards -/
def AnyBool (e : Ending) : Prop := ∃ r : Bool, e = .returned (.bool r)
theorem AnyBool.mk (r : Bool) : AnyBool (.returned (.bool r)) := ⟨r, rfl⟩
theorem zzBytes9_any (p : Option Addr) (n cap : Nat) (p' : Option Addr) (m cap' : Nat) (w : World) (hn : n ≤ maxLen) (hm : m ≤ maxLen) :
    Calls Try.prog 9 #[.slice p n cap, .slice p' m cap'] w fun e w' => AnyBool e ∧ w' = w := by
  unfold maxLen at hn hm
  go_enter Try.func9, Try.ntmps9
  go_wp2
  all_goals
    go_ret
    exact ⟨AnyBool.mk _, rfl⟩
theorem zzBytes14_any (p : Option Addr) (n cap : Nat) (p' : Option Addr) (m cap' : Nat) (w : World) (hn : n ≤ maxLen) (hm : m ≤ maxLen) :
    Calls Try.prog 14 #[.slice p n cap, .slice p' m cap'] w fun e w' => AnyBool e ∧ w' = w := by
  unfold maxLen at hn hm
  go_enter Try.func14, Try.ntmps14
  go_wp2
  all_goals
    go_ret
    exact ⟨AnyBool.mk _, rfl⟩

end Go.Proofs.Qxb6619298a
