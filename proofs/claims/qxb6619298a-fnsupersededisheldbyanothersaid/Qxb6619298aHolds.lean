/-
  Seat b6619298a: the walks of zzB1In, holdsAll, ZZHoldsAll, zzB1StringsBytes.
-/
import Derived.Test.Qxb6619298aBase
namespace Go.Proofs.Qxb6619298a
open Go.RowKit Go.Maps Go.WideMaps

theorem keyNext {ss : List ByteArray} {k : Nat} (hk : k < ss.length) : (keysOf ss).take (k + 1) = (keysOf ss).take k ++ [(ss.getD k ByteArray.empty).data.toList] := keysOf_take_succ ss k hk
theorem keyAll (ss : List ByteArray) : (keysOf ss).take ss.length = keysOf ss := by
  rw [List.take_of_length_le]; simp [keysOf]
theorem mem_keyAt {ss : List ByteArray} {k : Nat} (hk : k < ss.length) : (ss.getD k ByteArray.empty).data.toList ∈ keysOf ss := by
  unfold keysOf
  rw [List.getD, List.getElem?_eq_getElem hk]
  exact List.mem_map.2 ⟨ss[k], List.getElem_mem hk, rfl⟩

/-- x is among ss (as the walk's own word). -/
def inB (ss : List ByteArray) (x : ByteArray) : Bool := Lode.has (keysOf ss) x.data.toList
def inTo (ss : List ByteArray) (k : Nat) (x : ByteArray) : Bool := Lode.has ((keysOf ss).take k) x.data.toList
theorem inTo_step {ss : List ByteArray} {k : Nat} {x s : ByteArray} (hk : k < ss.length) (hs : s = ss.getD k ByteArray.empty) (h0 : inTo ss k x = false) (hne : (s.toList == x.toList) = false) : inTo ss (k + 1) x = false := by
  unfold inTo at *
  rw [keyNext hk, Lode.has_snoc, h0, ← hs]
  simp only [ByteArray.toList_eq, beq_eq_false_iff_ne, ne_eq] at hne
  rw [Bool.false_or, decide_eq_false_iff_not]
  exact fun e => hne e.symm
theorem inB_hit {ss : List ByteArray} {k : Nat} {x s : ByteArray} (hk : k < ss.length) (hs : s = ss.getD k ByteArray.empty) (he : (s.toList == x.toList) = true) : inB ss x = true := by
  unfold inB
  rw [Lode.has_iff]
  simp only [ByteArray.toList_eq, beq_iff_eq] at he
  rw [← he, hs]
  exact mem_keyAt hk
theorem inB_end {ss : List ByteArray} {x : ByteArray} (h0 : inTo ss ss.length x = false) : inB ss x = false := by
  unfold inTo at h0
  rw [keyAll] at h0
  exact h0

theorem ret_bool {a b : Bool} (h : a = b) : Ending.returned (.bool a) = .returned (.bool b) := by rw [h]

set_option maxHeartbeats 400000 in
set_option maxRecDepth 100000 in
theorem in_any (a : Option Addr) (n cap : Nat) (ss : List ByteArray) (x : ByteArray) (w : World) (hn : n ≤ 4611686018427387904) (hs : Strs w a n ss) :
    Calls Try.prog 22 #[.slice a n cap, .string x] w fun e w' => e = .returned (.bool (inB ss x)) ∧ w' = w := by
  obtain ⟨hl, hsz, hrow⟩ := hs
  have HL : Hid (ss.length = n) := hl
  clear hl
  go_enter Try.func22, Try.ntmps22
  go_wp2
  go_loop [5] (fun i => ∃ k : Nat, k ≤ n ∧ i = .int .i64 k ∧ Hid (inTo ss k x = false)) (fun i => n - (intOf i).toNat)
  case atStart => exact ⟨0, Nat.zero_le _, rfl, by simp [Hid, inTo, Lode.has_nil]⟩
  case round =>
    obtain ⟨k, hk, rfl, HN⟩ := hrel
    by_cases hlt : k < n
    · rcases hrow with h0 | ⟨b, off, rfl, hb, hc⟩
      · omega
      obtain ⟨s, hs⟩ : ∃ s, s = ss.getD k ByteArray.empty := ⟨_, rfl⟩
      have hcx := hc k hlt
      rw [← hs] at hcx
      have HS : Hid (s = ss.getD k ByteArray.empty) := hs
      clear hc hs
      go_wp2
      · go_ret
        exact ⟨ret_bool (inB_hit (by rw [HL.out]; exact hlt) HS.out ‹_›).symm, rfl⟩
      · go_round
        case rel => exact ⟨k + 1, by omega, by go_num, inTo_step (by rw [HL.out]; exact hlt) HS.out HN.out ‹_›⟩
        case measure => simp [intOf]; omega
    · have e0 : k = n := by omega
      subst e0
      go_wp2
      go_ret
      exact ⟨ret_bool (inB_end (by rw [HL.out]; exact HN.out)).symm, rfl⟩

/-! ### holdsAll -/
def holdsB (hs ws : List ByteArray) (first : Bool) : Bool := Lode.holds (keysOf hs) (keysOf ws) first
def setTo (ss : List ByteArray) (k : Nat) : DataW Unit := setK ((keysOf ss).take k)
theorem setTo_zero (ss : List ByteArray) : setTo ss 0 = .map [] := by simp [setTo, setK_nil]
theorem setTo_step {ss : List ByteArray} {k : Nat} {s : ByteArray} (hk : k < ss.length) (hs : s = ss.getD k ByteArray.empty) : (setTo ss k).put (kl s.data.toList) (.lit (.bool true)) = setTo ss (k + 1) := by
  unfold setTo
  rw [keyNext hk, setK_snoc, hs]
theorem setTo_look {ss : List ByteArray} {n : Nat} (hn : ss.length = n) (s : ByteArray) : (setTo ss n).atKey (kl s.data.toList) (.lit (.bool false)) = .lit (.bool (inB ss s)) := by
  subst hn
  unfold setTo inB
  rw [keyAll, atKey_setK]
theorem setTo_size {ss : List ByteArray} {n : Nat} (hn : ss.length = n) : Maps.size (setTo ss n) = Lode.dist (keysOf ss) := by
  subst hn
  unfold setTo
  rw [keyAll, size_setK]
def coversTo (hs ws : List ByteArray) (k : Nat) : Prop := ∀ x ∈ (keysOf ws).take k, x ∈ keysOf hs
theorem coversTo_step {hs ws : List ByteArray} {k : Nat} {s : ByteArray} (hk : k < ws.length) (he : s = ws.getD k ByteArray.empty) (h0 : coversTo hs ws k) (hi : inB hs s = true) : coversTo hs ws (k + 1) := by
  unfold coversTo at *
  rw [keyNext hk, ← he]
  intro x hx
  rcases List.mem_append.1 hx with hx | hx
  · exact h0 x hx
  · rw [List.mem_singleton.1 hx]
    unfold inB at hi
    exact (Lode.has_iff _ _).1 hi
theorem holdsB_miss {hs ws : List ByteArray} {k : Nat} {s : ByteArray} (first : Bool) (hk : k < ws.length) (he : s = ws.getD k ByteArray.empty) (hi : inB hs s = false) : holdsB hs ws first = false := by
  have hc : Lode.covers (keysOf hs) (keysOf ws) = false := by
    rw [Bool.eq_false_iff]
    intro hc
    have := (Lode.covers_iff _ _).1 hc _ (mem_keyAt hk)
    rw [← he] at this
    unfold inB at hi
    rw [(Lode.has_iff _ _).2 this] at hi
    cases hi
  simp [holdsB, Lode.holds, hc]
theorem holdsB_end {hs ws : List ByteArray} {n m : Nat} (first : Bool) (hn : hs.length = n) (hm : ws.length = m) (h0 : coversTo hs ws m) : holdsB hs ws first = (decide ((Maps.size (setTo ws m) : Int) < (Maps.size (setTo hs n) : Int)) || first) := by
  rw [setTo_size hn, setTo_size hm]
  subst hm
  unfold coversTo at h0
  rw [keyAll] at h0
  have hc : Lode.covers (keysOf hs) (keysOf ws) = true := (Lode.covers_iff _ _).2 h0
  unfold holdsB Lode.holds
  rw [hc, ← Lode.more_iff _ _ hc]
  simp
theorem hide_end {p : Prop} (h : p) : Hid p := h
theorem keyOf9 {s : ByteArray} (h : s.size ≤ maxLen) : keyOf Try.prog 9 (.string s) = some (kl s.data.toList) := keyOf_string_mk Try.underlying9 h

set_option maxHeartbeats 1000000 in
set_option maxRecDepth 100000 in
theorem holdsAll_any (a : Option Addr) (n cap : Nat) (hs : List ByteArray) (a' : Option Addr) (m cap' : Nat) (ws : List ByteArray) (first : Bool) (w : World)
    (hn : n ≤ 4611686018427387904) (hm : m ≤ 4611686018427387904) (h1 : Strs w a n hs) (h2 : Strs w a' m ws) :
    Calls Try.prog 28 #[.slice a n cap, .slice a' m cap', .bool first] w fun e w' => e = .returned (.bool (holdsB hs ws first)) ∧ Below w.heap.size w w' := by
  obtain ⟨hl1, hsz1, hrow1⟩ := h1
  obtain ⟨hl2, hsz2, hrow2⟩ := h2
  have HL1 : Hid (hs.length = n) := hl1
  have HL2 : Hid (ws.length = m) := hl2
  clear hl1 hl2
  have hmm := fun (q : IntKind) (c : Int) (u : World) => run_makeMap_hint (P := Try.prog) (t := 49) Try.underlying49 q c u
  go_enter Try.func28, Try.ntmps28
  go_wp2
  go_loopw [18] (fun i wr => ∃ k : Nat, k ≤ n ∧ i = .int .i64 k ∧ wr.ownsMap Try.prog 9 (plainElem Try.prog 4) w.heap.size k (setTo hs k) ∧ Below w.heap.size w wr)
    (fun i _ => n - (intOf i).toNat)
  case atStart => exact ⟨0, Nat.zero_le _, rfl, by rw [setTo_zero]; exact World.ownsMap_made _ _ _ _, (Below.refl _ _).alloc (Nat.le_refl _) _⟩
  case round =>
    obtain ⟨k, hk, rfl, hown, hnx⟩ := hrel
    by_cases hlt : k < n
    · rcases hrow1 with h0 | ⟨b, off, rfl, hb, hc⟩
      · omega
      obtain ⟨s, hs0⟩ : ∃ s, s = hs.getD k ByteArray.empty := ⟨_, rfl⟩
      have hcx : wr.cell? ⟨b, off + k, none⟩ = some (.string s) := by rw [hs0]; exact (hnx.cell (by exact hb)).trans (hc k hlt)
      have hkey : keyOf Try.prog 9 (.string s) = some (kl s.data.toList) := keyOf9 (by rw [hs0]; exact size_getD hsz1 k)
      have HS : Hid (s = hs.getD k ByteArray.empty) := hs0
      clear hc hs0
      go_wp2_with (first
        | (at_mapUpdate; refine wpList_mapUpdate_own _ rfl _ _ _ 49 rfl 9 4 law9 Try.underlying49 (plainElem (H := Unit) Try.prog 4) w.heap.size k _ rfl hown (by unfold maxLen; omega) _ _ _ rfl rfl hkey _ [] (plainElem_bool Try.underlying4 true) ?_; intro w1 hown1 hgrow1)
        | go_in)
      go_roundw
      case rel => exact ⟨k + 1, by omega, by go_num, by rw [← setTo_step (by rw [HL1.out]; exact hlt) HS.out]; exact hown1, hnx.grown hgrow1 hnx.size (fun j hj => by cases hj; exact Nat.le_refl _)⟩
      case measure => simp [intOf]; omega
    · have e0 : k = n := by omega
      subst e0
      obtain ⟨wo, rfl⟩ : ∃ wo : World, wo = wr := ⟨_, rfl⟩
      have hwo : w.heap.size < wo.heap.size := hown.lt
      have hown0 := hown.alloc (.map #[] 0)
      go_wp2_with fail
      go_loopw [30] (fun i wr => ∃ j : Nat, j ≤ m ∧ i = .int .i64 j ∧ wr.ownsMap Try.prog 9 (plainElem Try.prog 4) w.heap.size k (setTo hs k) ∧
          wr.ownsMap Try.prog 9 (plainElem Try.prog 4) wo.heap.size j (setTo ws j) ∧ Below w.heap.size w wr ∧ coversTo hs ws j)
        (fun i _ => m - (intOf i).toNat)
      case atStart => exact ⟨0, Nat.zero_le _, rfl, hown0, by rw [setTo_zero]; exact World.ownsMap_made _ _ _ _, hnx.alloc hnx.size _, by simp [coversTo]⟩
      case round =>
        obtain ⟨j, hj, rfl, hownA, hownB, hny, hcov⟩ := hrel
        clear hown hown0 hnx
        by_cases hlt2 : j < m
        · rcases hrow2 with h0 | ⟨b, off, rfl, hb, hc⟩
          · omega
          obtain ⟨s, hs0⟩ : ∃ s, s = ws.getD j ByteArray.empty := ⟨_, rfl⟩
          have hcx : wr.cell? ⟨b, off + j, none⟩ = some (.string s) := by rw [hs0]; exact (hny.cell (by exact hb)).trans (hc j hlt2)
          have hkey : keyOf Try.prog 9 (.string s) = some (kl s.data.toList) := keyOf9 (by rw [hs0]; exact size_getD hsz2 j)
          have HS : Hid (s = ws.getD j ByteArray.empty) := hs0
          clear hc hs0
          have HAT : Hid ((setTo hs k).atKey (kl s.data.toList) (.lit (.bool false)) = .lit (.bool (inB hs s))) := setTo_look HL1.out s
          cases hin : inB hs s
          · rw [hin] at HAT
            have HIN : Hid (inB hs s = false) := hin
            clear hin
            go_wp2_with (first
              | (at_lookup; refine wpList_lookup_own_bool _ rfl _ _ 49 rfl 9 4 law9 Try.underlying49 Try.underlying4 (zero4 _) w.heap.size k _ rfl hownA _ _ rfl hkey _ HAT.out ?_)
              | go_in)
            go_ret
            exact ⟨ret_bool (holdsB_miss first (by rw [HL2.out]; exact hlt2) HS.out HIN.out).symm, hny⟩
          · rw [hin] at HAT
            have HIN : Hid (inB hs s = true) := hin
            clear hin
            go_wp2_with (first
              | (at_lookup; refine wpList_lookup_own_bool _ rfl _ _ 49 rfl 9 4 law9 Try.underlying49 Try.underlying4 (zero4 _) w.heap.size k _ rfl hownA _ _ rfl hkey _ HAT.out ?_)
              | (at_mapUpdate; refine wpList_mapUpdate_own _ rfl _ _ _ 49 rfl 9 4 law9 Try.underlying49 (plainElem (H := Unit) Try.prog 4) wo.heap.size j _ rfl hownB (by unfold maxLen; omega) _ _ _ rfl rfl hkey _ [] (plainElem_bool Try.underlying4 true) ?_; intro w1 hown1 hgrow1)
              | go_in)
            go_roundw
            case rel => exact ⟨j + 1, by omega, by go_num, hownA.kept hgrow1 (fun e => by have := Option.some.inj e; omega), by rw [← setTo_step (by rw [HL2.out]; exact hlt2) HS.out]; exact hown1, hny.grown hgrow1 hny.size (fun i hi => by cases hi; omega), coversTo_step (by rw [HL2.out]; exact hlt2) HS.out hcov HIN.out⟩
            case measure => simp [intOf]; omega
        · have e1 : j = m := by omega
          subst e1
          have HE := hide_end (holdsB_end first HL1.out HL2.out hcov)
          by_cases hgt : (Maps.size (setTo ws j) : Int) < (Maps.size (setTo hs k) : Int)
          · go_wp2_with (first
              | (at_len; refine wpList_len_own _ rfl _ 49 rfl 9 4 Try.underlying49 (plainElem (H := Unit) Try.prog 4) w.heap.size k _ rfl hownA ?_)
              | (at_len; refine wpList_len_own _ rfl _ 49 rfl 9 4 Try.underlying49 (plainElem (H := Unit) Try.prog 4) wo.heap.size j _ rfl hownB ?_)
              | go_in)
            go_ret
            exact ⟨ret_bool (by rw [HE.out, decide_eq_true (by omega)]; rfl), hny⟩
          · go_wp2_with (first
              | (at_len; refine wpList_len_own _ rfl _ 49 rfl 9 4 Try.underlying49 (plainElem (H := Unit) Try.prog 4) w.heap.size k _ rfl hownA ?_)
              | (at_len; refine wpList_len_own _ rfl _ 49 rfl 9 4 Try.underlying49 (plainElem (H := Unit) Try.prog 4) wo.heap.size j _ rfl hownB ?_)
              | go_in)
            go_ret
            exact ⟨ret_bool (by rw [HE.out, decide_eq_false (by omega)]; rfl), hny⟩

/-- ZZHoldsAll hands on to holdsAll. -/
theorem zzHoldsAll_any (a : Option Addr) (n cap : Nat) (hs : List ByteArray) (a' : Option Addr) (m cap' : Nat) (ws : List ByteArray) (first : Bool) (w : World)
    (hn : n ≤ 4611686018427387904) (hm : m ≤ 4611686018427387904) (h1 : Strs w a n hs) (h2 : Strs w a' m ws) :
    Calls Try.prog 18 #[.slice a n cap, .slice a' m cap', .bool first] w fun e w' => e = .returned (.bool (holdsB hs ws first)) ∧ Below w.heap.size w w' := by
  go_enter Try.func18, Try.ntmps18
  go_wp2_with fail
  refine (holdsAll_any a n cap hs a' m cap' ws first _ hn hm h1 h2).mono ?_
  rintro e w1 ⟨rfl, hb⟩
  go_wp2_with fail
  go_ret
  exact ⟨rfl, hb⟩

end Go.Proofs.Qxb6619298a
