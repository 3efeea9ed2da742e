/-
  Seat b6619298a: shapes for the walks over [][]string and the blocks' records.
-/
import Derived.Test.Qxb6619298aFilled
import Derived.WalkSpells
import Derived.Maps.GroupsBeside
namespace Go.Proofs.Qxb6619298a
open Go.RowKit Go.Maps Go.WideMaps

/-- One list of sources: its slice value, and the strings that it reads as. -/
structure Src where
  a : Option Addr
  n : Nat
  cap : Nat
  ss : List ByteArray
def Src.nil : Src := ⟨none, 0, 0, []⟩
def Src.val (r : Src) : Value := .slice r.a r.n r.cap
def srcAt (rows : List Src) (i : Nat) : Src := rows.getD i Src.nil

/-- Each list reads as its strings in w. -/
def RowsOk (w : World) (rows : List Src) : Prop := ∀ i, Strs w (srcAt rows i).a (srcAt rows i).n (srcAt rows i).ss
theorem RowsOk.below {w w' : World} {rows : List Src} (h : RowsOk w rows) (hb : Below w.heap.size w w') : RowsOk w' rows := fun i => (h i).below hb

/-- A slice of lists of sources in w. -/
def Srcs (w : World) (a : Option Addr) (n : Nat) (rows : List Src) : Prop :=
  rows.length = n ∧ RowsOk w rows ∧
  (n = 0 ∨ ∃ b off, a = some ⟨b, off, none⟩ ∧ b < w.heap.size ∧ ∀ j, j < n → w.cell? ⟨b, off + j, none⟩ = some (srcAt rows j).val)
theorem Srcs.below {w w' : World} {a : Option Addr} {n : Nat} {rows : List Src} (h : Srcs w a n rows) (hb : Below w.heap.size w w') : Srcs w' a n rows := by
  obtain ⟨h1, h2, h3⟩ := h
  refine ⟨h1, h2.below hb, ?_⟩
  rcases h3 with h3 | ⟨b, off, e, hlt, hc⟩
  · exact .inl h3
  · exact .inr ⟨b, off, e, Nat.lt_of_lt_of_le hlt hb.size, fun j hj => (hb.cell (p := ⟨b, off + j, none⟩) hlt).trans (hc j hj)⟩

/-- The ten cells of a block's record whose Sources are v, all else zero. -/
def metaL (v : Value) : List Value := [.string ByteArray.empty, .int .i64 0, .int .i64 0, .int .u64 0, .int .u64 0, .int .u64 0, .int .u64 0, .int .i64 0, v, .int .i64 0]

/-- Block B of w is a row of n records, none frozen; the Sources of the i-th are f i, all else is zero. -/
def Metas (w : World) (B n : Nat) (f : Nat → Value) : Prop :=
  ∃ cur : Array Value, w.heap[B]? = some (.cells cur 47 (0, 0)) ∧ cur.size = n * 10 ∧ ∀ i, i < n → ∀ j, j < 10 → cur[i * 10 + j]? = (metaL (f i))[j]?

theorem Metas.lt {w : World} {B n : Nat} {f : Nat → Value} (h : Metas w B n f) : B < w.heap.size := by
  obtain ⟨cur, hb, _⟩ := h
  exact (Array.getElem?_eq_some_iff.1 hb).1
theorem Metas.cell {w : World} {B n : Nat} {f : Nat → Value} (h : Metas w B n f) {i : Nat} (hi : i < n) {j : Nat} (hj : j < 10) : w.cell? ⟨B, i * 10 + j, none⟩ = (metaL (f i))[j]? := by
  obtain ⟨cur, hb, _, hc⟩ := h
  simp only [World.cell?, hb]
  simpa using hc i hi j hj
theorem Metas.frozen {w : World} {B n : Nat} {f : Nat → Value} (h : Metas w B n f) (j : Nat) : w.frozen? ⟨B, j, none⟩ = false := by
  obtain ⟨cur, hb, _⟩ := h
  simp [World.frozen?, hb]
theorem Metas.below {w w' : World} {B n : Nat} {f : Nat → Value} {B' : Nat} (h : Metas w B n f) (hb : Below B' w w') (hlt : B < B') : Metas w' B n f := by
  obtain ⟨cur, hb', r⟩ := h
  exact ⟨cur, (hb.block B hlt).trans hb', r⟩

/-- The ten cells of the i-th record, at the walk's own addresses. -/
theorem Metas.ten {w : World} {B n : Nat} {f : Nat → Value} (h : Metas w B n f) {i : Nat} (hi : i < n) {v : Value} (hv : f i = v) :
    w.cell? ⟨B, i * 10, none⟩ = some (.string ByteArray.empty) ∧ w.cell? ⟨B, i * 10 + 1, none⟩ = some (.int .i64 0) ∧ w.cell? ⟨B, i * 10 + 2, none⟩ = some (.int .i64 0) ∧ w.cell? ⟨B, i * 10 + 3, none⟩ = some (.int .u64 0) ∧
    w.cell? ⟨B, i * 10 + 4, none⟩ = some (.int .u64 0) ∧ w.cell? ⟨B, i * 10 + 5, none⟩ = some (.int .u64 0) ∧ w.cell? ⟨B, i * 10 + 6, none⟩ = some (.int .u64 0) ∧ w.cell? ⟨B, i * 10 + 7, none⟩ = some (.int .i64 0) ∧
    w.cell? ⟨B, i * 10 + 8, none⟩ = some v ∧ w.cell? ⟨B, i * 10 + 9, none⟩ = some (.int .i64 0) := by
  subst hv
  exact ⟨h.cell hi (j := 0) (by omega), h.cell hi (j := 1) (by omega), h.cell hi (j := 2) (by omega), h.cell hi (j := 3) (by omega), h.cell hi (j := 4) (by omega), h.cell hi (j := 5) (by omega), h.cell hi (j := 6) (by omega), h.cell hi (j := 7) (by omega), h.cell hi (j := 8) (by omega), h.cell hi (j := 9) (by omega)⟩

/-! ### who holds a key -/
open Go.ChangeShapes (lits)

/-- What a list of numbers reads as among the map's elements (none: nil). -/
def gd (zs : List Int) : DataW Unit := if zs = [] then .nil else .slice (lits .i64 zs) []
/-- The map reads, key by key, as just those numbers of which p holds. -/
def Holders (D : DataW Unit) (p : List UInt8 → Nat → Prop) : Prop := ∀ key, ∃ zs : List Int, D.atKey (kl key) .nil = gd zs ∧ ∀ i : Int, i ∈ zs ↔ ∃ m : Nat, i = (m : Int) ∧ p key m

theorem lits_inj {a b : List Int} (h : lits (H := Unit) .i64 a = lits .i64 b) : a = b := by
  unfold lits at h
  exact (List.map_inj_right (fun x y hxy => by cases hxy; rfl)).1 h

theorem gd_inj {w : World} {base : Nat} {v : Value} {zs ys : List Int} (ho : w.ownsInts base 3 .i64 v zs) (h : rowDatum (H := Unit) .i64 v zs = gd ys) : zs = ys := by
  unfold gd at h
  rcases ho.datum (H := Unit) with ⟨h1, h2⟩ | h1
  · rw [h1] at h
    split at h
    · rename_i h3; rw [h2, h3]
    · cases h
  · rw [h1] at h
    split at h
    · cases h
    · injection h with h3 h4
      exact lits_inj h3

theorem Holders.empty {p : List UInt8 → Nat → Prop} (h : ∀ key m, ¬ p key m) : Holders (.map []) p := fun key => ⟨[], by simp [gd]; rfl, fun i => by
  constructor
  · intro hi; cases hi
  · rintro ⟨m, _, hm⟩; exact absurd hm (h key m)⟩

theorem Holders.get {D : DataW Unit} {p : List UInt8 → Nat → Prop} {w : World} {base : Nat} {v : Value} {zs : List Int} {key : List UInt8} (h : Holders D p) (ho : w.ownsInts base 3 .i64 v zs) (hat : D.atKey (kl key) .nil = rowDatum .i64 v zs) :
    ∀ i : Int, i ∈ zs ↔ ∃ m : Nat, i = (m : Int) ∧ p key m := by
  obtain ⟨ys, hy, hm⟩ := h key
  rw [hy] at hat
  rw [gd_inj ho hat.symm]
  exact hm

theorem Holders.step {D : DataW Unit} {p p' : List UInt8 → Nat → Prop} {w : World} {base : Nat} {v : Value} {zs : List Int} {key : List UInt8} {k : Nat} (h : Holders D p) (hD : IsMap D) (ho : w.ownsInts base 3 .i64 v zs) (hat : D.atKey (kl key) .nil = rowDatum .i64 v zs)
    (hp : ∀ key' m, p' key' m ↔ p key' m ∨ (key' = key ∧ m = k)) : Holders (D.put (kl key) (.slice (lits .i64 (zs ++ [(k : Int)])) [])) p' := by
  intro key'
  by_cases e : key' = key
  · subst e
    refine ⟨zs ++ [(k : Int)], ?_, fun i => ?_⟩
    · rw [atKey_put_same hD (isKey_kl key')]
      unfold gd
      rw [if_neg (by simp)]
    · rw [List.mem_append, h.get ho hat i, List.mem_singleton]
      constructor
      · rintro (⟨m, hm, hpm⟩ | rfl)
        · exact ⟨m, hm, (hp _ _).2 (.inl hpm)⟩
        · exact ⟨k, rfl, (hp _ _).2 (.inr ⟨rfl, rfl⟩)⟩
      · rintro ⟨m, rfl, hpm⟩
        rcases (hp _ _).1 hpm with hpm | ⟨_, rfl⟩
        · exact .inl ⟨m, rfl, hpm⟩
        · exact .inr rfl
  · obtain ⟨ys, hy, hm⟩ := h key'
    refine ⟨ys, ?_, fun i => ?_⟩
    · rw [atKey_put_other (fun h => e (kl_inj h)), hy]
    · rw [hm i]
      constructor
      · rintro ⟨m, hm, hpm⟩
        exact ⟨m, hm, (hp _ _).2 (.inl hpm)⟩
      · rintro ⟨m, hm, hpm⟩
        rcases (hp _ _).1 hpm with hpm | ⟨h1, _⟩
        · exact ⟨m, hm, hpm⟩
        · exact absurd h1 e

theorem Holders.congr {D : DataW Unit} {p p' : List UInt8 → Nat → Prop} (h : Holders D p) (hp : ∀ key m, p' key m ↔ p key m) : Holders D p' := fun key => by
  obtain ⟨zs, hz, hm⟩ := h key
  refine ⟨zs, hz, fun i => ?_⟩
  rw [hm i]
  constructor
  · rintro ⟨m, h1, h2⟩; exact ⟨m, h1, (hp _ _).2 h2⟩
  · rintro ⟨m, h1, h2⟩; exact ⟨m, h1, (hp _ _).1 h2⟩

theorem isMap_groups {w : World} {P : Program} {k : TypeId} {base : Nat} {e : TypeId} {q : IntKind} {b n : Nat} {D : DataW Unit} (h : w.ownsGroups P k base e q b n D) : IsMap D := by
  obtain ⟨es, clock, _, _, _, rfl, _⟩ := h
  exact ⟨_, rfl⟩
theorem lt_groups {w : World} {P : Program} {k : TypeId} {base : Nat} {e : TypeId} {q : IntKind} {b n : Nat} {D : DataW Unit} (h : w.ownsGroups P k base e q b n D) : b < w.heap.size := by
  obtain ⟨es, clock, hb, _⟩ := h
  exact (Array.getElem?_eq_some_iff.1 hb).1
/-- What lies below the world's size is as it was: so the groups are. -/
theorem groups_below {w w' : World} {P : Program} {k : TypeId} {base : Nat} {e : TypeId} {q : IntKind} {b n : Nat} {D : DataW Unit} (h : w.ownsGroups P k base e q b n D) (hb : Below w.heap.size w w') : w'.ownsGroups P k base e q b n D :=
  h.kept (row := none) ⟨hb.os, hb.tape, hb.output, hb.size, fun i hi _ => hb.block i hi⟩ (by simp) (fun _ _ _ x _ => by
    cases x.val.ownBlock
    · exact .inl rfl
    · exact .inr (by simp))

/-- The lists' keys. -/
def keysAt (rows : List Src) (i : Nat) : List (List UInt8) := keysOf (srcAt rows i).ss
/-- Behind k whole lists and j strings of the next: who holds a key. -/
def pAt (rows : List Src) (k j : Nat) (key : List UInt8) (m : Nat) : Prop := (m < k ∧ key ∈ keysAt rows m) ∨ (m = k ∧ key ∈ (keysAt rows k).take j)
theorem pAt_zero (rows : List Src) (key : List UInt8) (m : Nat) : ¬ pAt rows 0 0 key m := by
  rintro (⟨h, _⟩ | ⟨_, h⟩)
  · omega
  · simp at h
theorem pAt_step {rows : List Src} {k j : Nat} {a : Option Addr} {n cap : Nat} {ss : List ByteArray} (he : srcAt rows k = ⟨a, n, cap, ss⟩) (hj : j < ss.length) {s : ByteArray} (hs : s = ss.getD j ByteArray.empty) (key : List UInt8) (m : Nat) :
    pAt rows k (j + 1) key m ↔ pAt rows k j key m ∨ (key = s.data.toList ∧ m = k) := by
  have h1 : (keysAt rows k).take (j + 1) = (keysAt rows k).take j ++ [s.data.toList] := by
    unfold keysAt
    rw [he, hs]
    exact keyNext hj
  unfold pAt
  rw [h1, List.mem_append, List.mem_singleton]
  constructor
  · rintro (h | ⟨h, h2 | h2⟩)
    · exact .inl (.inl h)
    · exact .inl (.inr ⟨h, h2⟩)
    · exact .inr ⟨h2, h⟩
  · rintro ((h | ⟨h, h2⟩) | ⟨h2, h⟩)
    · exact .inl h
    · exact .inr ⟨h, .inl h2⟩
    · exact .inr ⟨h, .inr h2⟩
theorem pAt_next {rows : List Src} {k : Nat} {a : Option Addr} {n cap : Nat} {ss : List ByteArray} (he : srcAt rows k = ⟨a, n, cap, ss⟩) (key : List UInt8) (m : Nat) : pAt rows (k + 1) 0 key m ↔ pAt rows k ss.length key m := by
  have h1 : (keysAt rows k).take ss.length = keysAt rows k := by
    unfold keysAt
    rw [he]
    exact keyAll ss
  unfold pAt
  rw [h1, List.take_zero]
  constructor
  · rintro (⟨h, h2⟩ | ⟨_, h2⟩)
    · by_cases e : m = k
      · exact .inr ⟨e, e ▸ h2⟩
      · exact .inl ⟨by omega, h2⟩
    · cases h2
  · rintro (⟨h, h2⟩ | ⟨h, h2⟩)
    · exact .inl ⟨by omega, h2⟩
    · exact .inl ⟨by omega, h ▸ h2⟩

theorem info3 : (Try.prog.info? 3).map (fun i => (i.zero, i.size, i.bytes)) = some (some (.int .i64 0), 1, 8) := by kernel_rfl
theorem zero51 (w : World) : (zeroValue 51).run Try.prog w = .ok (.slice none 0 0) w := by kernel_rfl

/-! ### the flags -/
/-- Block B of w is a row of n bools, none frozen: f i at i. -/
def Flags (w : World) (B n : Nat) (f : Nat → Bool) : Prop :=
  ∃ cur : Array Value, w.heap[B]? = some (.cells cur 4 (0, 0)) ∧ cur.size = n ∧ ∀ i, i < n → cur[i]? = some (.bool (f i))
theorem Flags.lt {w : World} {B n : Nat} {f : Nat → Bool} (h : Flags w B n f) : B < w.heap.size := by
  obtain ⟨cur, hb, _⟩ := h
  exact (Array.getElem?_eq_some_iff.1 hb).1
theorem Flags.cell {w : World} {B n : Nat} {f : Nat → Bool} (h : Flags w B n f) {i : Nat} (hi : i < n) : w.cell? ⟨B, i, none⟩ = some (.bool (f i)) := by
  obtain ⟨cur, hb, _, hc⟩ := h
  simp only [World.cell?, hb]
  simpa using hc i hi
theorem Flags.frozen {w : World} {B n : Nat} {f : Nat → Bool} (h : Flags w B n f) (j : Nat) : w.frozen? ⟨B, j, none⟩ = false := by
  obtain ⟨cur, hb, _⟩ := h
  simp [World.frozen?, hb]
theorem Flags.below {w w' : World} {B n : Nat} {f : Nat → Bool} {B' : Nat} (h : Flags w B n f) (hb : Below B' w w') (hlt : B < B') : Flags w' B n f := by
  obtain ⟨cur, hb', r⟩ := h
  exact ⟨cur, (hb.block B hlt).trans hb', r⟩
theorem Flags.congr {w : World} {B n : Nat} {f g : Nat → Bool} (h : Flags w B n f) (he : ∀ i, i < n → g i = f i) : Flags w B n g := by
  obtain ⟨cur, hb, hs, hc⟩ := h
  exact ⟨cur, hb, hs, fun i hi => by rw [he i hi]; exact hc i hi⟩
theorem Flags.set {w : World} {B n : Nat} {f : Nat → Bool} (h : Flags w B n f) {k : Nat} (hk : k < n) (x : Bool) : Flags (w.setCell ⟨B, k, none⟩ (.bool x)) B n (fun i => if i = k then x else f i) := by
  obtain ⟨cur, hb, hs, hc⟩ := h
  refine ⟨cur.setIfInBounds k (.bool x), ?_, by simp [hs], ?_⟩
  · rw [setCell_eq_setRow w B k cur 4 (0, 0) (.bool x) hb]
    exact setRow_heap w B cur _ 4 _ hb
  · intro j hj
    by_cases e : j = k
    · subst e
      rw [Array.getElem?_setIfInBounds_self, if_pos (by omega)]
      simp
    · rw [Array.getElem?_setIfInBounds_ne (by omega), hc j hj]
      simp [e]
/-- What 'make' lays for n bools. -/
def blankB (n : Nat) : Array Value := madeCells #[.bool false] n
theorem Flags.made (w : World) (n : Nat) : Flags (w.alloc (.cells (blankB n) 4)) w.heap.size n (fun _ => false) :=
  ⟨_, (MapKept.heap_alloc w _).1, size_madeCells _ _, fun i hi => by simp [blankB, madeCells, hi, Nat.mod_one]⟩
theorem infoB : ∃ i, Try.prog.info? 4 = some i ∧ i.zero = some (.bool false) ∧ i.size = 1 ∧ i.bytes = 1 := by
  have h : (Try.prog.info? 4).map (fun i => (i.zero, i.size, i.bytes)) = some (some (.bool false), 1, 1) := by kernel_rfl
  cases hi : Try.prog.info? 4 with
  | none => rw [hi] at h; simp at h
  | some i => rw [hi] at h; simp at h; exact ⟨i, rfl, h.1, h.2.1, h.2.2⟩
/-- 'make([]bool, n)'. -/
theorem run_make37 (n : Nat) (hn : n ≤ 8192) (w : World) : (Instr.makeSlice 37 (.int .i64 n) (.int .i64 n)).run Try.prog w = .ok (.slice (some ⟨w.heap.size, 0, none⟩) n n) (w.alloc (.cells (blankB n) 4)) := by
  obtain ⟨i, hi, hz, hs, hb⟩ := infoB
  have := run_make (P := Try.prog) w 37 4 i _ Try.underlying37 hi hz .i64 .i64 n n (by omega) (by omega) (by rw [hb]; omega) (by omega)
  rw [this, hs]
  simp [blankB, Value.cells]

/-! ### the groups, read -/
/-- A slice of ints in w, from its row's head. -/
def Ints (w : World) (a : Option Addr) (zs : List Int) : Prop := zs = [] ∨ ∃ g, a = some ⟨g, 0, none⟩ ∧ g < w.heap.size ∧ ∀ j, j < zs.length → w.cell? ⟨g, j, none⟩ = some (.int .i64 (zs.getD j 0))

theorem Ints.below {w w' : World} {a : Option Addr} {zs : List Int} (h : Ints w a zs) (hb : Below w.heap.size w w') : Ints w' a zs := by
  rcases h with h | ⟨g, e, hlt, hc⟩
  · exact .inl h
  · exact .inr ⟨g, e, Nat.lt_of_lt_of_le hlt hb.size, fun j hj => (hb.cell (p := ⟨g, j, none⟩) hlt).trans (hc j hj)⟩

/-- The look-up in the groups, the slice's shape written out. -/
theorem wpList_lookup_read {P : Program} (w : World) {ops : Array Oper} {rest : List Oper} {o : Oper} {a : Act} {Q : Exit → Act → World → Prop}
    (hg : o.guard = none) (m x : Operand) (t : TypeId) (hop : o.op = Op.lookup t m x false)
    (k E : TypeId) (K : Keyed P k) (ht : P.underlying t = some (.map k E)) (hz : (zeroValue E).run P w = .ok (.slice none 0 0) w) (base b n : Nat) (D : DataW Unit)
    (hm : a.eval m = .map (some b)) (hown : w.ownsGroups P k base 3 .i64 b n D) (hn : n < maxLen) (key : Value) (ky : List UInt8) (hx : a.eval x = key) (hkey : keyOf P k key = some (kl ky)) (p : List UInt8 → Nat → Prop) (hH : Holders D p)
    (hK : ∀ (a4 : Option Addr) (cap4 : Nat) (zs : List Int), Ints w a4 zs → zs.length ≤ n → (∀ i : Int, i ∈ zs ↔ ∃ m : Nat, i = (m : Int) ∧ p ky m) → wpList P ops Q rest (a.put o.dst (.slice a4 zs.length cap4)) w) :
    wpList P ops Q (o :: rest) a w := by
  refine wpList_lookup_groups w hg m x t hop k E 3 .i64 K ht hz base b n D hm hown hn key (kl ky) hx hkey ?_
  intro v zs hat hoi hzl _
  have hmem := hH.get hoi hat
  rcases hoi.1.2 with ⟨rfl, h0⟩ | ⟨g, cap, cur, rfl, hbg, hh, _⟩
  · obtain rfl : zs = [] := List.length_eq_zero_iff.1 h0
    exact hK none 0 [] (.inl rfl) hzl hmem
  · refine hK _ _ zs (.inr ⟨g, rfl, (Array.getElem?_eq_some_iff.1 hh).1, fun j hj => ?_⟩) hzl hmem
    rw [hoi.1.cellAt j (by omega)]
    simp [List.getD, List.getElem?_eq_getElem hj]

/-! ### the answer -/
def supB (rows : List Src) (n i : Nat) : Bool := Lode.supAt (keysAt rows) n i
def hitB (rows : List Src) (i j : Nat) : Bool := Lode.hit (keysAt rows) i j
theorem supB_nil {rows : List Src} {n i : Nat} (h : (srcAt rows i).ss = []) : supB rows n i = false := Lode.supAt_nil (by simp [keysAt, h, keysOf])
theorem keysAt_ne {rows : List Src} {i : Nat} (h : 0 < (srcAt rows i).ss.length) : keysAt rows i ≠ [] := fun e => by
  have := congrArg List.length e
  simp [keysAt, keysOf] at this
  rw [this] at h
  cases h
theorem supB_hit {rows : List Src} {n i j : Nat} (h0 : 0 < (srcAt rows i).ss.length) (hj : j < n) (h : hitB rows i j = true) : supB rows n i = true := Lode.supAt_hit (keysAt_ne h0) hj h
theorem hitB_ne {rows : List Src} {i j : Nat} (hne : j ≠ i) : hitB rows i j = holdsB (srcAt rows j).ss (srcAt rows i).ss (decide (j < i)) := by
  unfold hitB Lode.hit holdsB keysAt
  simp [hne]
theorem hitB_self (rows : List Src) (i : Nat) : hitB rows i i = false := by simp [hitB, Lode.hit]
/-- None of the first q numbers is a hit. -/
def noHit (rows : List Src) (i : Nat) (zs : List Int) (q : Nat) : Prop := ∀ t, t < q → ∀ j : Nat, zs.getD t 0 = (j : Int) → hitB rows i j = false
theorem noHit_zero (rows : List Src) (i : Nat) (zs : List Int) : noHit rows i zs 0 := fun _ ht => absurd ht (Nat.not_lt_zero _)
theorem noHit_step {rows : List Src} {i q jn : Nat} {zs : List Int} (h : noHit rows i zs q) (he : zs.getD q 0 = (jn : Int)) (hh : hitB rows i jn = false) : noHit rows i zs (q + 1) := fun t ht j hj => by
  by_cases e : t = q
  · subst e
    rw [he] at hj
    rw [← Int.ofNat.inj hj]
    exact hh
  · exact h t (by omega) j hj
theorem supB_miss {rows : List Src} {n i : Nat} {ss : List ByteArray} {zs : List Int} {s : ByteArray} (he : (srcAt rows i).ss = ss) (h0 : 0 < ss.length) (hs : s = ss.getD 0 ByteArray.empty) (hz : ∀ t : Int, t ∈ zs ↔ ∃ m : Nat, t = (m : Int) ∧ pAt rows n 0 s.data.toList m) (h : noHit rows i zs zs.length) : supB rows n i = false := by
  refine Lode.supAt_miss (x := s.data.toList) ?_ (fun j hj hx => ?_)
  · unfold keysAt
    rw [he, hs]
    exact mem_keyAt h0
  · have hm : (j : Int) ∈ zs := (hz j).2 ⟨j, rfl, .inl ⟨hj, hx⟩⟩
    obtain ⟨t, ht, e⟩ := List.mem_iff_getElem.1 hm
    exact h t ht j (by rw [List.getD, List.getElem?_eq_getElem ht, Option.getD_some, e])
theorem num_lt {rows : List Src} {n : Nat} {zs : List Int} {ky : List UInt8} (hz : ∀ t : Int, t ∈ zs ↔ ∃ m : Nat, t = (m : Int) ∧ pAt rows n 0 ky m) {q : Nat} (hq : q < zs.length) : ∃ jn : Nat, zs.getD q 0 = (jn : Int) ∧ jn < n := by
  rw [List.getD, List.getElem?_eq_getElem hq, Option.getD_some]
  obtain ⟨m, hm, hp⟩ := (hz zs[q]).1 (List.getElem_mem hq)
  refine ⟨m, hm, ?_⟩
  rcases hp with ⟨h, _⟩ | ⟨_, h⟩
  · exact h
  · simp at h

end Go.Proofs.Qxb6619298a
