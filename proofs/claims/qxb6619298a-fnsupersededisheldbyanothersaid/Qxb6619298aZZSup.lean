/-
  Seat b6619298a: the walk of ZZSuperseded.
-/
import Derived.Test.Qxb6619298aSup
namespace Go.Proofs.Qxb6619298a
open Go.RowKit Go.Maps Go.WideMaps

theorem Metas.congr {w : World} {B n : Nat} {f g : Nat → Value} (h : Metas w B n f) (he : ∀ i, i < n → g i = f i) : Metas w B n g := by
  obtain ⟨cur, hb, hs, hc⟩ := h
  exact ⟨cur, hb, hs, fun i hi => by rw [he i hi]; exact hc i hi⟩
theorem metaL_other {v u : Value} {j : Nat} (h : j ≠ 8) : (metaL v)[j]? = (metaL u)[j]? := by
  unfold metaL
  match j, h with
  | 0, _ => rfl
  | 1, _ => rfl
  | 2, _ => rfl
  | 3, _ => rfl
  | 4, _ => rfl
  | 5, _ => rfl
  | 6, _ => rfl
  | 7, _ => rfl
  | 9, _ => rfl
  | n + 10, _ => rfl
theorem Metas.set {w : World} {B n : Nat} {f : Nat → Value} (h : Metas w B n f) {k : Nat} (hk : k < n) (v : Value) : Metas (w.setCell ⟨B, k * 10 + 8, none⟩ v) B n (fun i => if i = k then v else f i) := by
  obtain ⟨cur, hb, hs, hc⟩ := h
  refine ⟨cur.setIfInBounds (k * 10 + 8) v, ?_, by simp [hs], ?_⟩
  · rw [setCell_eq_setRow w B (k * 10 + 8) cur 47 (0, 0) v hb]
    exact setRow_heap w B cur _ 47 _ hb
  · intro i hi j hj
    by_cases e : i = k
    · subst e
      by_cases e8 : j = 8
      · subst e8
        rw [Array.getElem?_setIfInBounds_self, if_pos (by omega)]
        simp [metaL]
      · rw [Array.getElem?_setIfInBounds_ne (by omega), hc i hi j hj]
        simp only [if_pos]
        exact metaL_other e8
    · rw [Array.getElem?_setIfInBounds_ne (by omega), hc i hi j hj]
      simp [e]
/-- What 'make' lays for n records. -/
def blankM (n : Nat) : Array Value := madeCells (metaL (.slice none 0 0)).toArray (n * 10)
theorem Metas.made (w : World) (n : Nat) : Metas (w.alloc (.cells (blankM n) 47)) w.heap.size n (fun _ => .slice none 0 0) := by
  refine ⟨_, (MapKept.heap_alloc w _).1, size_madeCells _ _, fun i hi j hj => ?_⟩
  have e : (i * 10 + j) % 10 = j := by omega
  have hlt : i * 10 + j < n * 10 := by omega
  unfold blankM madeCells
  rw [Array.getElem?_map, Array.getElem?_range, if_pos hlt]
  simp only [Option.map_some, List.size_toArray, show (metaL (.slice none 0 0)).length = 10 from rfl, e]
  have hl : j < (metaL (.slice none 0 0)).length := hj
  rw [List.getElem?_eq_getElem hl]
  simp [hl]
theorem infoM : ∃ i, Try.prog.info? 47 = some i ∧ i.zero = some (.agg (metaL (.slice none 0 0)).toArray) ∧ i.size = 10 ∧ i.bytes = 104 := by
  have h : (Try.prog.info? 47).map (fun i => (i.zero, i.size, i.bytes)) = some (some (.agg (metaL (.slice none 0 0)).toArray), 10, 104) := by kernel_rfl
  cases hi : Try.prog.info? 47 with
  | none => rw [hi] at h; simp at h
  | some i => rw [hi] at h; simp at h; exact ⟨i, rfl, h.1, h.2.1, h.2.2⟩
/-- 'make' of n records. -/
theorem run_make40 (n : Nat) (hn : n ≤ 8192) (w : World) : (Instr.makeSlice 40 (.int .i64 n) (.int .i64 n)).run Try.prog w = .ok (.slice (some ⟨w.heap.size, 0, none⟩) n n) (w.alloc (.cells (blankM n) 47)) := by
  obtain ⟨i, hi, hz, hs, hb⟩ := infoM
  have := run_make (P := Try.prog) w 40 47 i _ Try.underlying40 hi hz .i64 .i64 n n (by omega) (by omega) (by rw [hb]; omega) (by omega)
  rw [this, hs]
  simp [blankM, Value.cells]

set_option maxHeartbeats 2000000 in
set_option maxRecDepth 100000 in
theorem zzSup_any (a : Option Addr) (n cap : Nat) (rows : List Src) (w : World) (hn : n ≤ 8192) (hcap : ∀ i, (srcAt rows i).n ≤ 4096) (hs : Srcs w a n rows) :
    Calls Try.prog 25 #[.slice a n cap] w fun e w' => SupPost w n rows e w' := by
  obtain ⟨hl, hro, hrow⟩ := hs
  have HL : Hid (rows.length = n) := hl
  clear hl
  have hmk := fun (u : World) => run_make40 n hn u
  go_enter Try.func25, Try.ntmps25
  go_wp2_with fail
  go_loopw [4] (fun i wr => ∃ k : Nat, k ≤ n ∧ i = .int .i64 k ∧ Metas wr w.heap.size n (fun i => if i < k then (srcAt rows i).val else .slice none 0 0) ∧ Below w.heap.size w wr) (fun i _ => n - (intOf i).toNat)
  case atStart => exact ⟨0, Nat.zero_le _, rfl, (Metas.made w n).congr (fun i _ => by simp), (Below.refl _ _).alloc (Nat.le_refl _) _⟩
  case round =>
    obtain ⟨k, hk, rfl, hm, hb⟩ := hrel
    by_cases hlt : k < n
    · rcases hrow with h0 | ⟨b, off, rfl, hbl, hc⟩
      · omega
      obtain ⟨a2, m, cap2, ss, he⟩ : ∃ a m cap ss, srcAt rows k = ⟨a, m, cap, ss⟩ := ⟨_, _, _, _, rfl⟩
      have hcx : wr.cell? ⟨b, off + k, none⟩ = some (.slice a2 m cap2) := by rw [(hb.cell (p := ⟨b, off + k, none⟩) hbl), hc k hlt, he]; rfl
      have HE : Hid ((srcAt rows k).val = .slice a2 m cap2) := by rw [he]; rfl
      clear hc he
      have hfz := hm.frozen (k * 10 + 8)
      have c8 : wr.cell? ⟨w.heap.size, k * 10 + 8, none⟩ = some (.slice none 0 0) := by rw [hm.cell hlt (j := 8) (by omega)]; simp [metaL]
      go_wp2_with fail
      go_roundw
      case rel =>
        refine ⟨k + 1, by omega, by go_num, (hm.set hlt (.slice a2 m cap2)).congr (fun i hi => ?_), hb.setCell (Nat.le_refl _) _⟩
        rw [← HE.out]
        by_cases e : i = k
        · subst e; simp
        · by_cases e2 : i < k
          · simp [e, e2, Nat.lt_succ_of_lt e2]
          · simp [e, e2, show ¬ i < k + 1 by omega]
      case measure => simp [intOf]; omega
    · have e0 : k = n := by omega
      subst e0
      have hmf : Metas wr w.heap.size k (fun i => (srcAt rows i).val) := hm.congr (fun i hi => by simp [hi])
      have hro2 := hro.below hb
      clear hm hro
      go_wp2_with fail
      refine (sup_any w.heap.size k rows wr hn hcap hmf hro2).mono ?_
      rintro e w1 ⟨Hb, rfl, hle, hfl, hb1⟩
      go_wp2_with fail
      go_ret
      exact ⟨Hb, rfl, Nat.le_trans hb.size hle, hfl, hb.trans (hb1.mono hb.size)⟩

end Go.Proofs.Qxb6619298a
