/-
  Seat b6619298a: the walk of FnSupersededDuplicateAddsOnlyItself.
-/
import Derived.Test.Qxb6619298aZZSup
import Derived.Test.Qxb6619298aSupBytes
import Derived.Test.Qxb6619298aSupLaw
namespace Go.Proofs.Qxb6619298a
open Go.RowKit Go.Maps Go.WideMaps

/-- Block B of w is a row of N slices of strings (type 29), none frozen; the first k are those of rows. -/
def FilledR (w : World) (B N : Nat) (rows : List Src) (k : Nat) : Prop :=
  ∃ cur : Array Value, w.heap[B]? = some (.cells cur 29 (0, 0)) ∧ cur.size = N ∧ ∀ j, j < k → cur[j]? = some (srcAt rows j).val
theorem FilledR.lt {w : World} {B N : Nat} {rows : List Src} {k : Nat} (h : FilledR w B N rows k) : B < w.heap.size := by
  obtain ⟨cur, hb, _⟩ := h
  exact (Array.getElem?_eq_some_iff.1 hb).1
theorem FilledR.any {w : World} {B N : Nat} {rows : List Src} {k : Nat} (h : FilledR w B N rows k) {j : Nat} (hj : j < N) : ∃ v, w.cell? ⟨B, j, none⟩ = some v := by
  obtain ⟨cur, hb, hs, _⟩ := h
  exact ⟨cur[j]'(by omega), by simp [World.cell?, hb, show j < cur.size by omega]⟩
theorem FilledR.frozen {w : World} {B N : Nat} {rows : List Src} {k : Nat} (h : FilledR w B N rows k) (j : Nat) : w.frozen? ⟨B, j, none⟩ = false := by
  obtain ⟨cur, hb, _⟩ := h
  simp [World.frozen?, hb]
theorem FilledR.set {w : World} {B N : Nat} {rows : List Src} {k : Nat} (h : FilledR w B N rows k) (hk : k < N) {v : Value} (hv : (srcAt rows k).val = v) : FilledR (w.setCell ⟨B, k, none⟩ v) B N rows (k + 1) := by
  obtain ⟨cur, hb, hsz, hc⟩ := h
  refine ⟨cur.setIfInBounds k v, ?_, by simp [hsz], ?_⟩
  · rw [setCell_eq_setRow w B k cur 29 (0, 0) v hb]
    exact setRow_heap w B cur _ 29 _ hb
  · intro j hj
    by_cases e : j = k
    · subst e
      rw [Array.getElem?_setIfInBounds_self, if_pos (by omega), hv]
    · rw [Array.getElem?_setIfInBounds_ne (by omega)]
      exact hc j (by omega)
theorem FilledR.srcs {w : World} {B N : Nat} {rows : List Src} (h : FilledR w B N rows N) (hl : rows.length = N) (hr : RowsOk w rows) : Srcs w (some ⟨B, 0, none⟩) N rows :=
  ⟨hl, hr, .inr ⟨B, 0, rfl, h.lt, fun j hj => by
    obtain ⟨cur, hb, _, hc⟩ := h
    rw [Nat.zero_add]
    simp only [World.cell?, hb]
    simpa using hc j hj⟩⟩
def blankR (n : Nat) : Array Value := madeCells #[.slice none 0 0] n
theorem FilledR.made (w : World) (N : Nat) (rows : List Src) : FilledR (w.alloc (.cells (blankR N) 29)) w.heap.size N rows 0 :=
  ⟨_, (MapKept.heap_alloc w _).1, size_madeCells _ _, fun _ hj => absurd hj (Nat.not_lt_zero _)⟩
theorem infoR : ∃ i, Try.prog.info? 29 = some i ∧ i.zero = some (.slice none 0 0) ∧ i.size = 1 ∧ i.bytes = 24 := by
  have h : (Try.prog.info? 29).map (fun i => (i.zero, i.size, i.bytes)) = some (some (.slice none 0 0), 1, 24) := by kernel_rfl
  cases hi : Try.prog.info? 29 with
  | none => rw [hi] at h; simp at h
  | some i => rw [hi] at h; simp at h; exact ⟨i, rfl, h.1, h.2.1, h.2.2⟩
/-- 'make([][]string, n)'. -/
theorem run_make35 (n : Nat) (hn : n ≤ 8192) (q : Int) (hq : q = (n : Int)) (w : World) : (Instr.makeSlice 35 (.int .i64 q) (.int .i64 q)).run Try.prog w = .ok (.slice (some ⟨w.heap.size, 0, none⟩) n n) (w.alloc (.cells (blankR n) 29)) := by
  subst hq
  obtain ⟨i, hi, hz, hs, hb⟩ := infoR
  have := run_make (P := Try.prog) w 35 29 i _ Try.underlying35 hi hz .i64 .i64 n n (by omega) (by omega) (by rw [hb]; omega) (by omega)
  rw [this, hs]
  simp [blankR, Value.cells]

/-- The lists with a copy of list q behind them. -/
def dupOf (rows : List Src) (q : Nat) : List Src := rows ++ [srcAt rows q]
theorem dup_left {rows : List Src} {q n j : Nat} (hl : rows.length = n) (hj : j < n) : srcAt (dupOf rows q) j = srcAt rows j := by
  simp [srcAt, dupOf, List.getD, List.getElem?_append, show j < rows.length by omega]
theorem dup_last {rows : List Src} {q n : Nat} (hl : rows.length = n) : srcAt (dupOf rows q) n = srcAt rows q := by
  subst hl
  simp [srcAt, dupOf, List.getD]
theorem dup_some {rows : List Src} {q n : Nat} (hl : rows.length = n) {p : Src → Prop} (h0 : p Src.nil) (h : ∀ i, p (srcAt rows i)) (j : Nat) : p (srcAt (dupOf rows q) j) := by
  by_cases h1 : j < n
  · rw [dup_left hl h1]; exact h j
  · by_cases h2 : j = n
    · subst h2; rw [dup_last hl]; exact h q
    · have : srcAt (dupOf rows q) j = Src.nil := by simp [srcAt, List.getD, List.getElem?_eq_none (show (dupOf rows q).length ≤ j by simp [dupOf]; omega)]
      rw [this]; exact h0
theorem strs_nil (w : World) : Strs w Src.nil.a Src.nil.n Src.nil.ss := ⟨rfl, by simp [Src.nil], .inl rfl⟩
theorem dup_old {rows : List Src} {q n i : Nat} (hl : rows.length = n) (hq : q < n) (hi : i < n) : supB (dupOf rows q) (n + 1) i = supB rows n i :=
  Lode.supAt_dup_old (K := keysAt rows) hq (fun i hi => by unfold keysAt; rw [dup_left hl hi]) (by unfold keysAt; rw [dup_last hl]) hi
theorem dup_new {rows : List Src} {q n : Nat} (hl : rows.length = n) (hq : q < n) : supB (dupOf rows q) (n + 1) n = decide (0 < (srcAt rows q).ss.length) := by
  unfold supB
  rw [Lode.supAt_dup_new (K := keysAt rows) hq (fun i hi => by unfold keysAt; rw [dup_left hl hi]) (by unfold keysAt; rw [dup_last hl])]
  unfold keysAt keysOf
  cases h : (srcAt rows q).ss <;> simp

set_option maxHeartbeats 4000000 in
set_option maxRecDepth 100000 in
theorem dup_walk (a : Option Addr) (n cap : Nat) (rows : List Src) (q : Int) (w : World) (hn : n ≤ maxLen) (hs : Srcs w a n rows) :
    Calls Try.prog 8 #[.slice a n cap, .int .i64 q] w fun e w' => e = .returned (.bool true) ∧ Below w.heap.size w w' := by
  have hz := zzBytes26_any a n cap rows q w hn hs
  have htb := tooBig_any a n cap rows w hn hs
  unfold maxLen at hn
  go_enter Try.func8, Try.ntmps8
  go_wp2_with fail
  refine hz.mono ?_
  clear hz
  rintro e w1 ⟨⟨r, rfl⟩, rfl⟩
  cases r
  · clear htb
    go_wp2_with fail
    go_ret
    exact ⟨rfl, Below.refl _ _⟩
  go_wp2_with fail
  refine htb.mono ?_
  clear htb
  rintro e w1 ⟨⟨r, rfl, hbd⟩, rfl⟩
  cases r
  case true =>
    clear hbd
    go_wp2_with fail
    go_ret
    exact ⟨rfl, Below.refl _ _⟩
  obtain ⟨hn2, hcap⟩ := hbd rfl
  have HCAP : Hid (∀ i, (srcAt rows i).n ≤ 4096) := hcap
  clear hbd hcap
  by_cases hq0 : q < 0
  · go_wp2_with fail
    go_ret
    exact ⟨rfl, Below.refl _ _⟩
  by_cases hq1 : (n : Int) ≤ q
  · go_wp2_with fail
    go_ret
    exact ⟨rfl, Below.refl _ _⟩
  obtain ⟨qn, rfl⟩ := Int.eq_ofNat_of_zero_le (show 0 ≤ q by omega)
  have hqn : qn < n := by omega
  go_wp2_with fail
  refine (zzSup_any a n cap rows w1 (by omega) HCAP.out hs).mono ?_
  rintro e w2 ⟨H1, rfl, hH1, hf1, hb2⟩
  have hs2 := hs.below hb2
  clear hs
  have hmk := fun (u : World) => run_make35 (n + 1) (by omega) (n + 1) (by omega) u
  have hfA : FilledR (w2.alloc (.cells (blankR (n + 1)) 29)) w2.heap.size (n + 1) (dupOf rows qn) 0 := FilledR.made _ _ _
  go_wp2_with fail
  go_loopw [8] (fun i wr => ∃ k : Nat, k ≤ n ∧ i = .int .i64 k ∧ FilledR wr w2.heap.size (n + 1) (dupOf rows qn) k ∧ Below w2.heap.size w2 wr) (fun i _ => n - (intOf i).toNat)
  case atStart => exact ⟨0, Nat.zero_le _, rfl, hfA, (Below.refl _ _).alloc (Nat.le_refl _) _⟩
  case round =>
    obtain ⟨k, hk, rfl, hf, hb⟩ := hrel
    clear hfA hmk
    have hl := hs2.1
    have HL : Hid (rows.length = n) := hl
    clear hl
    rcases hs2.2.2 with h0 | ⟨b, off, rfl, hbl, hc⟩
    · omega
    by_cases hlt : k < n
    · obtain ⟨a2, m, cap2, ss, he⟩ : ∃ a m cap ss, srcAt rows k = ⟨a, m, cap, ss⟩ := ⟨_, _, _, _, rfl⟩
      have hcx : wr.cell? ⟨b, off + k, none⟩ = some (.slice a2 m cap2) := by rw [(hb.cell (p := ⟨b, off + k, none⟩) hbl), hc k hlt, he]; rfl
      have HE : Hid ((srcAt (dupOf rows qn) k).val = .slice a2 m cap2) := by rw [dup_left HL.out hlt, he]; rfl
      clear hc he
      have hfz := hf.frozen k
      obtain ⟨v, hv⟩ := hf.any (j := k) (by omega)
      go_wp2_with fail
      go_roundw
      case rel => exact ⟨k + 1, by omega, by go_num, hf.set (by omega) HE.out, hb.setCell (Nat.le_refl _) _⟩
      case measure => simp [intOf]; omega
    · have e0 : k = n := by omega
      subst e0
      obtain ⟨a2, m, cap2, ss, he⟩ : ∃ a m cap ss, srcAt rows qn = ⟨a, m, cap, ss⟩ := ⟨_, _, _, _, rfl⟩
      have hcx : wr.cell? ⟨b, off + qn, none⟩ = some (.slice a2 m cap2) := by rw [(hb.cell (p := ⟨b, off + qn, none⟩) hbl), hc qn hqn, he]; rfl
      have HE : Hid (srcAt rows qn = ⟨a2, m, cap2, ss⟩) := he
      have hrq := hs2.2.1 qn
      rw [he] at hrq
      have HLQ : Hid (ss.length = m) := hrq.1
      clear hc he hrq
      have hfz := hf.frozen k
      obtain ⟨v, hv⟩ := hf.any (j := k) (by omega)
      have hf2 : FilledR (wr.setCell ⟨w2.heap.size, k, none⟩ (.slice a2 m cap2)) w2.heap.size (k + 1) (dupOf rows qn) (k + 1) := hf.set (by omega) (by rw [dup_last HL.out, HE.out]; rfl)
      have hb3 : Below w2.heap.size w2 (wr.setCell ⟨w2.heap.size, k, none⟩ (.slice a2 m cap2)) := hb.setCell (Nat.le_refl _) _
      have hsE : Srcs (wr.setCell ⟨w2.heap.size, k, none⟩ (.slice a2 m cap2)) (some ⟨w2.heap.size, 0, none⟩) (k + 1) (dupOf rows qn) := hf2.srcs (by simp [dupOf, HL.out]) (dup_some HL.out (p := fun r => Strs _ r.a r.n r.ss) (strs_nil _) (hs2.2.1.below hb3))
      have hsH := hs2.below hb3
      have hfl := hf1.below hb3 hf1.lt
      have hbW : Below w1.heap.size w1 (wr.setCell ⟨w2.heap.size, k, none⟩ (.slice a2 m cap2)) := hb2.trans (hb3.mono hb2.size)
      clear hs2 hb3 hb hf2 hf hf1 hb2
      generalize hwe : wr.setCell ⟨w2.heap.size, k, none⟩ (.slice a2 m cap2) = we at *
      have HW : Hid (wr.setCell ⟨w2.heap.size, k, none⟩ (.slice a2 m cap2) = we) := hwe
      clear hwe
      go_wp2_with fail
      rw [HW.out]
      clear HW hv hfz
      refine (zzSup_any (some ⟨w2.heap.size, 0, none⟩) (k + 1) (k + 1) (dupOf rows qn) we (by omega) (dup_some HL.out (p := fun r => r.n ≤ 4096) (Nat.zero_le _) HCAP.out) hsE).mono ?_
      rintro e w5 ⟨H2, rfl, hH2, hf2, hb5⟩
      have hs5 := hsH.below hb5
      have hf1 := hfl.below hb5 hfl.lt
      have hbW5 : Below w1.heap.size w1 w5 := hbW.trans (hb5.mono hbW.size)
      clear hsH hsE hbW hb5 hfl hH2 hH1
      have hkk : ((k : Int) != (k : Int)) = false := by simp
      go_wp2_with fail
      go_loopw [10] (fun i wr => ∃ t : Nat, t ≤ k ∧ i = .int .i64 t ∧ Below w5.heap.size w5 wr) (fun i _ => k - (intOf i).toNat)
      case atStart => exact ⟨0, Nat.zero_le _, rfl, Below.refl _ _⟩
      case round =>
        obtain ⟨t, ht, rfl, hbt⟩ := hrel
        have g1 := hf1.below hbt hf1.lt
        have g2 := hf2.below hbt hf2.lt
        by_cases hlt : t < k
        · obtain ⟨fb, hfb⟩ : ∃ fb, fb = supB rows k t := ⟨_, rfl⟩
          have d1 : wr.cell? ⟨H1, t, none⟩ = some (.bool fb) := by rw [hfb]; exact g1.cell hlt
          have d2 : wr.cell? ⟨H2, t, none⟩ = some (.bool fb) := by rw [hfb, ← dup_old HL.out hqn hlt]; exact g2.cell (by omega)
          clear hfb g1 g2
          have i1 : (t : Int) < (k : Int) := by omega
          have i2 : (t : Int) < (k : Int) + 1 := by omega
          go_wp2_with fail
          go_quiet (fail)
          go_wp2_with fail
          go_roundw
          case rel => exact ⟨t + 1, by omega, by go_num, below_drewN hbt nq⟩
          case measure => simp [intOf]; omega
        · have e1 : t = k := by omega
          subst e1
          have d2 : wr.cell? ⟨H2, t, none⟩ = some (.bool (decide (0 < m))) := by rw [g2.cell (by omega), dup_new HL.out hqn, HE.out]; simp only [HLQ.out]
          have d3 : wr.cell? ⟨b, off + qn, none⟩ = some (.slice a2 m cap2) := by
            rcases hs5.2.2 with h0 | ⟨b', off', e, hlt', hc'⟩
            · omega
            · cases e
              rw [hbt.cell (p := ⟨b, off + qn, none⟩) hlt', hc' qn hqn, HE.out]
              rfl
          have i1 : (t : Int) < (t : Int) + 1 := by omega
          have i2 : (qn : Int) < (t : Int) := by omega
          clear g1 g2
          by_cases hm0 : m = 0
          · subst hm0
            have d2' : wr.cell? ⟨H2, t, none⟩ = some (.bool false) := by rw [d2]; simp
            clear d2
            go_wp2_with fail
            go_quiet (fail)
            go_wp2_with fail
            go_ret
            exact ⟨rfl, below_drewN (hbW5.trans (hbt.mono hbW5.size)) nq⟩
          · have d2' : wr.cell? ⟨H2, t, none⟩ = some (.bool true) := by rw [d2]; simp; omega
            clear d2
            have hmp : decide (0 < (m : Int)) = true := by simp; omega
            go_wp2_with fail
            go_quiet (fail)
            go_wp2_with fail
            go_ret
            exact ⟨ret_bool (decide_eq_true (by omega)), below_drewN (hbW5.trans (hbt.mono hbW5.size)) nq⟩

end Go.Proofs.Qxb6619298a
