/-
  Seat b6619298a: a row of strings that the call itself makes and fills; a copy of a []string.
-/
import Derived.Test.Qxb6619298aBytes
import Derived.Laws.CopyOwn
import Derived.Laws.MakeOwn
namespace Go.Proofs.Qxb6619298a
open Go.RowKit Go.Maps Go.WideMaps

/-- Block B of w is a row of N cells (type 9), none frozen; the first k hold the strings of ss. -/
def Filled (w : World) (B N : Nat) (ss : List ByteArray) (k : Nat) : Prop :=
  ∃ cur : Array Value, w.heap[B]? = some (.cells cur 9 (0, 0)) ∧ cur.size = N ∧ ∀ j, j < k → cur[j]? = some (.string (ss.getD j ByteArray.empty))

theorem Filled.lt {w : World} {B N : Nat} {ss : List ByteArray} {k : Nat} (h : Filled w B N ss k) : B < w.heap.size := by
  obtain ⟨cur, hb, _⟩ := h
  exact (Array.getElem?_eq_some_iff.1 hb).1
theorem Filled.cell {w : World} {B N : Nat} {ss : List ByteArray} {k : Nat} (h : Filled w B N ss k) {j : Nat} (hj : j < k) : w.cell? ⟨B, j, none⟩ = some (.string (ss.getD j ByteArray.empty)) := by
  obtain ⟨cur, hb, _, hc⟩ := h
  simp [World.cell?, hb]
  simpa using hc j hj
theorem Filled.any {w : World} {B N : Nat} {ss : List ByteArray} {k : Nat} (h : Filled w B N ss k) {j : Nat} (hj : j < N) : ∃ v, w.cell? ⟨B, j, none⟩ = some v := by
  obtain ⟨cur, hb, hs, _⟩ := h
  exact ⟨cur[j]'(by omega), by simp [World.cell?, hb, show j < cur.size by omega]⟩
theorem Filled.frozen {w : World} {B N : Nat} {ss : List ByteArray} {k : Nat} (h : Filled w B N ss k) (j : Nat) : w.frozen? ⟨B, j, none⟩ = false := by
  obtain ⟨cur, hb, _⟩ := h
  simp [World.frozen?, hb]
theorem Filled.set {w : World} {B N : Nat} {ss : List ByteArray} {k : Nat} (h : Filled w B N ss k) (hk : k < N) {s : ByteArray} (hs : s = ss.getD k ByteArray.empty) : Filled (w.setCell ⟨B, k, none⟩ (.string s)) B N ss (k + 1) := by
  obtain ⟨cur, hb, hsz, hc⟩ := h
  refine ⟨cur.setIfInBounds k (.string s), ?_, by simp [hsz], ?_⟩
  · rw [setCell_eq_setRow w B k cur 9 (0, 0) (.string s) hb]
    exact setRow_heap w B cur _ 9 _ hb
  · intro j hj
    by_cases e : j = k
    · subst e
      rw [Array.getElem?_setIfInBounds_self, if_pos (by omega), hs]
    · rw [Array.getElem?_setIfInBounds_ne (by omega)]
      exact hc j (by omega)
theorem Filled.strs {w : World} {B N : Nat} {ss : List ByteArray} (h : Filled w B N ss N) (hl : ss.length = N) (hsz : ∀ s ∈ ss, s.size ≤ maxLen) : Strs w (some ⟨B, 0, none⟩) N ss :=
  ⟨hl, hsz, .inr ⟨B, 0, rfl, h.lt, fun j hj => by rw [Nat.zero_add]; exact h.cell hj⟩⟩
theorem Filled.made (w : World) (N : Nat) (ss : List ByteArray) (z : Array Value) : Filled (w.alloc (.cells (madeCells z N) 9)) w.heap.size N ss 0 :=
  ⟨_, (MapKept.heap_alloc w _).1, size_madeCells _ _, fun _ hj => absurd hj (Nat.not_lt_zero _)⟩
theorem Filled.other {w w' : World} {B N : Nat} {ss : List ByteArray} {k B' : Nat} (h : Filled w B N ss k) (hb : Below B' w w') (hlt : B < B') : Filled w' B N ss k := by
  obtain ⟨cur, hb', r⟩ := h
  exact ⟨cur, (hb.block B hlt).trans hb', r⟩
theorem Filled.ofSplice {w : World} {B n : Nat} {ss : List ByteArray} {cur : List Value} (hl : ss.length = n) (hc : cur.length = n) (h : w.heap[B]? = some (.cells (splice cur 0 (ss.map Value.string)).toArray 9 (0, 0))) : Filled w B n ss n := by
  refine ⟨_, h, ?_, ?_⟩
  · simp [splice, hl, hc]
  · intro j hj
    have : j < ss.length := by omega
    simp [splice, List.getElem?_append, this, List.getD]

theorem zeroS : ∃ i, Try.prog.info? 9 = some i ∧ i.zero = some (.string ByteArray.empty) ∧ i.size = 1 ∧ i.bytes = 16 := by
  have h : (Try.prog.info? 9).map (fun i => (i.zero, i.size, i.bytes)) = some (some (.string ByteArray.empty), 1, 16) := by kernel_rfl
  cases hi : Try.prog.info? 9 with
  | none => rw [hi] at h; simp at h
  | some i => rw [hi] at h; simp at h; exact ⟨i, rfl, h.1, h.2.1, h.2.2⟩

/-- What 'make' lays for n strings. -/
def blank (n : Nat) : Array Value := madeCells #[.string ByteArray.empty] n

/-- 'make([]string, n)'. -/
theorem run_make29 (n : Nat) (hn : n ≤ 8192) (q : Int) (hq : q = (n : Int)) (w : World) : (Instr.makeSlice 29 (.int .i64 q) (.int .i64 q)).run Try.prog w = .ok (.slice (some ⟨w.heap.size, 0, none⟩) n n) (w.alloc (.cells (blank n) 9)) := by
  subst hq
  obtain ⟨i, hi, hz, hs, hb⟩ := zeroS
  have := run_make (P := Try.prog) w 29 9 i _ Try.underlying29 hi hz .i64 .i64 n n (by omega) (by omega) (by rw [hb]; omega) (by omega)
  rw [this, hs]
  simp [blank, Value.cells]

/-- 'zzc := make([]string, len(s)); copy(zzc, s)': the copy's run. -/
theorem run_copy29 (w : World) (ad : Addr) (n cap : Nat) (ss : List ByteArray) (hs : Strs w (some ad) n ss) :
    ∃ w2, (∀ ty, (Builtin.copy_ #[29, 29] ty #[.slice (some ⟨w.heap.size, 0, none⟩) n n, .slice (some ad) n cap]).run Try.prog (w.alloc (.cells (blank n) 9)) = .ok (.int .i64 n) w2) ∧ Filled w2 w.heap.size n ss n ∧ Below w.heap.size w w2 := by
  obtain ⟨hl, _, hrow⟩ := hs
  have hb : Below w.heap.size w (w.alloc (.cells (blank n) 9)) := (Below.refl _ _).alloc (Nat.le_refl _) _
  have hg : (w.alloc (.cells (blank n) 9)).heap[w.heap.size]? = some (.cells (blank n) 9 (0, 0)) := (MapKept.heap_alloc w _).1
  have hbn : (blank n).size = n := size_madeCells _ _
  have hsz : (Try.prog.info? 9).map (·.size) = some 1 := by kernel_rfl
  rcases hrow with h0 | ⟨b, off, e, hlt, hc⟩
  · subst h0
    refine ⟨_, fun ty => run_copy_none (P := Try.prog) (w.alloc (.cells (blank 0) 9)) 29 29 ty 9 (some ⟨w.heap.size, 0, none⟩) (some ad) 0 0 0 cap Try.underlying29 hsz rfl, ⟨_, hg, hbn, fun _ hj => absurd hj (Nat.not_lt_zero _)⟩, hb⟩
  · cases e
    have hrun := fun ty => run_copy_row (P := Try.prog) (w.alloc (.cells (blank n) 9)) 29 29 ty 9 w.heap.size 0 n n ⟨b, off, none⟩ n cap (blank n) 9 (ss.map Value.string) Try.underlying29 hsz hg (by simp [hl])
      (fun j v hv => by
        have hj : j < n := by have := (List.getElem?_eq_some_iff.1 hv).1; simp at this; omega
        rw [Go.WideShapes.add_plain, hb.cell (p := ⟨b, off + j, none⟩) hlt, hc j hj]
        rw [List.getElem?_map] at hv
        have : j < ss.length := by omega
        rw [List.getElem?_eq_getElem this] at hv
        simp at hv
        rw [List.getD, List.getElem?_eq_getElem this]
        simp [hv])
      (by simp [hl, hbn]) (by simp [Value.oneCell'])
    refine ⟨(w.alloc (.cells (blank n) 9)).setRow w.heap.size (splice (blank n).toList 0 (ss.map Value.string)).toArray, fun ty => ?_, ?_, below_setRow hb (Nat.le_refl _) _⟩
    · rw [hrun ty, List.length_map, hl]
      simp only [splice, List.append_assoc, List.length_map, hl]
      rfl
    · exact Filled.ofSplice (cur := (blank n).toList) hl (by simpa using hbn) (setRow_heap _ _ _ _ 9 _ hg)

open Go.ChangeShapes Go.WideShapes in
/-- A []string that came in, as its reading gives it. -/
theorem strs_open {H : Type} {enc : TypeId × Value → H} {P : Program} {base : Nat} {held : Bool} {t e : TypeId} {d : DataW H} {p : List MemPlace} (W : World) (a : Option Addr) (len cap : Nat)
    (ht : P.underlying t = some (.slice e)) (he : P.underlying e = some .string) (hc : P.cellsOf e = 1) (h : DataW.Trod enc P W base (fun _ => true) held t (.slice a len cap) d p) :
    ∃ ss, Strs W a len ss ∧ (a = none → len = 0) ∧ len ≤ maxLen := by
  obtain ⟨fuel, hf⟩ := h
  rcases open_strings ht he hc hf with ⟨hcs, _⟩ | ⟨x, l, c, ss, hcs, _, hl, hm, hz, _, hcell, hsz⟩
  · simp [Value.cells] at hcs
    obtain ⟨rfl, rfl, rfl⟩ := hcs
    exact ⟨[], ⟨rfl, by simp, .inl rfl⟩, fun _ => rfl, Nat.zero_le _⟩
  · simp [Value.cells] at hcs
    obtain ⟨rfl, rfl, rfl⟩ := hcs
    simp at hz
    refine ⟨ss.take len, ⟨by simp; omega, fun s hs => hsz s (List.mem_of_mem_take hs), ?_⟩, fun e => (by cases e), by omega⟩
    by_cases h0 : len = 0
    · exact .inl h0
    · obtain ⟨b, off, spot⟩ := x
      have hspot : spot = none := by simpa [Addr.add] using World.cell?_spot (hcell 0 (by omega))
      subst hspot
      refine .inr ⟨b, off, rfl, World.block_lt_of_cell? _ _ (hcell 0 (by omega)), fun j hj => ?_⟩
      rw [← add_plain, hcell j (by omega)]
      simp [List.getD, hj]

end Go.Proofs.Qxb6619298a
