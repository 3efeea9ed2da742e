/-
  Seat b6619298a: a [][]string that came in, opened.
-/
import Derived.Test.Qxb6619298aSupBase
import Derived.Deep.Slices
namespace Go.Proofs.Qxb6619298a
open Go.RowKit Go.Maps Go.WideMaps
open Go.ChangeShapes Go.WideShapes

theorem strs_none (W : World) : Strs W Src.nil.a Src.nil.n Src.nil.ss := ⟨rfl, by simp [Src.nil], .inl rfl⟩
/-- From 'for every i < n there is a list' to one list of them. -/
theorem rows_of {p : Nat → Src → Prop} : ∀ n : Nat, (∀ i, i < n → ∃ r, p i r) → ∃ rows : List Src, rows.length = n ∧ ∀ i, i < n → p i (srcAt rows i)
  | 0, _ => ⟨[], rfl, fun i hi => absurd hi (Nat.not_lt_zero _)⟩
  | k + 1, each => by
    obtain ⟨rows, hl, hr⟩ := rows_of k (fun i hi => each i (by omega))
    obtain ⟨r, hr1⟩ := each k (by omega)
    refine ⟨rows ++ [r], by simp [hl], fun i hi => ?_⟩
    by_cases e : i = k
    · subst e
      have : srcAt (rows ++ [r]) i = r := by subst hl; simp [srcAt, List.getD]
      rw [this]
      exact hr1
    · have : srcAt (rows ++ [r]) i = srcAt rows i := by simp [srcAt, List.getD, List.getElem?_append, show i < rows.length by omega]
      rw [this]
      exact hr i (by omega)

theorem srcs_open {H : Type} {enc : TypeId × Value → H} {base : Nat} {held : Bool} {d : DataW H} {p : List MemPlace} (W : World) (a : Option Addr) (len cap : Nat)
    (h : DataW.Trod enc Try.prog W base (fun _ => true) held 35 (.slice a len cap) d p) : ∃ rows, Srcs W a len rows ∧ len ≤ maxLen := by
  obtain ⟨fuel, hf⟩ := h
  rcases Go.Deep.open_slice1 Try.underlying35 (by kernel_rfl) hf with ⟨hcs, _⟩ | ⟨x, l, c, m, n, V, D, Pl, hcs, _, hl, hm, hmm, _, hx⟩
  · simp [Value.cells] at hcs
    obtain ⟨rfl, rfl, rfl⟩ := hcs
    exact ⟨[], ⟨rfl, fun _ => strs_none W, .inl rfl⟩, Nat.zero_le _⟩
  · simp [Value.cells] at hcs
    obtain ⟨rfl, rfl, rfl⟩ := hcs
    simp at hmm
    have each : ∀ i, i < len → ∃ r : Src, W.cell? (x.add i) = some r.val ∧ Strs W r.a r.n r.ss := by
      intro i hi
      obtain ⟨h1, h2⟩ := hx i (by omega)
      have h3 := h2
      rcases open_strings Try.underlying29 Try.underlying9 (by kernel_rfl) h3 with ⟨he, _⟩ | ⟨y, l2, c2, ss, he, _⟩
      · have hv : V i = .slice none 0 0 := by simpa using he
        rw [hv] at h1
        exact ⟨Src.nil, h1, rfl, by simp [Src.nil], .inl rfl⟩
      · have hv : V i = .slice (some y) l2 c2 := by simpa using he
        rw [hv] at h1 h2
        obtain ⟨ss', hs, _, _⟩ := strs_open (enc := enc) W (some y) l2 c2 Try.underlying29 Try.underlying9 (by kernel_rfl) (show DataW.Trod enc Try.prog W base (fun _ => true) held 29 (.slice (some y) l2 c2) (D i) (Pl i) from ⟨n, by simpa [Value.cells] using h2⟩)
        exact ⟨⟨some y, l2, c2, ss'⟩, h1, hs⟩
    obtain ⟨rows, hrl, hr⟩ := rows_of (p := fun i r => W.cell? (x.add i) = some r.val ∧ Strs W r.a r.n r.ss) len each
    refine ⟨rows, ⟨hrl, fun i => ?_, ?_⟩, by omega⟩
    · by_cases hi : i < len
      · exact (hr i hi).2
      · have : srcAt rows i = Src.nil := by simp [srcAt, List.getD, List.getElem?_eq_none (show rows.length ≤ i by omega)]
        rw [this]
        exact ⟨rfl, by simp [Src.nil], .inl rfl⟩
    · by_cases h0 : len = 0
      · exact .inl h0
      · obtain ⟨b, off, spot⟩ := x
        have hspot : spot = none := by simpa [Addr.add] using World.cell?_spot (hr 0 (by omega)).1
        subst hspot
        refine .inr ⟨b, off, rfl, World.block_lt_of_cell? _ _ (hr 0 (by omega)).1, fun j hj => ?_⟩
        rw [← add_plain]
        exact (hr j hj).1

end Go.Proofs.Qxb6619298a
