/-
  Seat b6619298a: the walk of FnIntersectIsTheCommonIDsInOrder.
-/
import Derived.Test.Qxb6619298aInter
namespace Go.Proofs.Qxb6619298a
open Go.RowKit

set_option maxHeartbeats 4000000 in
set_option maxRecDepth 100000 in
theorem common_walk (p0 : Option Addr) (n cap0 : Nat) (xs : List Int) (p1 : Option Addr) (m cap1 : Nat) (ys : List Int) (w : World) (hn : n ≤ maxLen) (hm : m ≤ maxLen)
    (h0 : U32s w p0 n xs) (h1 : U32s w p1 m ys) (hnil0 : p0 = none → n = 0) (hnil1 : p1 = none → m = 0) :
    Calls Try.prog 3 #[.slice p0 n cap0, .slice p1 m cap1] w fun e w' => e = .returned (.bool true) ∧ Below w.heap.size w w' := by
  have hz := zzBytes9_any p0 n cap0 p1 m cap1 w hn hm
  have HN0 : Hid (p0 = none → n = 0) := hnil0
  have HN1 : Hid (p1 = none → m = 0) := hnil1
  clear hnil0 hnil1
  unfold maxLen at hn hm
  by_cases hbig : 65536 < n
  · go_enter Try.func3, Try.ntmps3
    go_wp2_with fail
    refine hz.mono ?_
    rintro e w1 ⟨⟨r, rfl⟩, rfl⟩
    cases r
    · go_wp2_with fail
      go_ret
      exact ⟨rfl, Below.refl _ _⟩
    · go_wp2_with fail
      go_ret
      exact ⟨rfl, Below.refl _ _⟩
  by_cases hbig2 : 65536 < m
  · go_enter Try.func3, Try.ntmps3
    go_wp2_with fail
    refine hz.mono ?_
    rintro e w1 ⟨⟨r, rfl⟩, rfl⟩
    cases r
    · go_wp2_with fail
      go_ret
      exact ⟨rfl, Below.refl _ _⟩
    · go_wp2_with fail
      go_ret
      exact ⟨rfl, Below.refl _ _⟩
  go_enter Try.func3, Try.ntmps3
  go_wp2_with fail
  refine hz.mono ?_
  clear hz
  rintro e w0 ⟨⟨r, rfl⟩, rfl⟩
  cases r
  · go_wp2_with fail
    go_ret
    exact ⟨rfl, Below.refl _ _⟩
  go_wp2_with fail
  refine (asc_any p0 n cap0 xs w0 (by omega) h0).mono ?_
  rintro e w1 ⟨r, rfl, hax, -, hb1⟩
  have h01 := h0.below hb1
  have h11 := h1.below hb1
  cases r
  · clear hax
    go_wp2_with fail
    go_ret
    exact ⟨rfl, hb1⟩
  have hx := hax rfl
  clear hax h0 h1
  go_wp2_with fail
  refine (asc_any p1 m cap1 ys w1 (by omega) h11).mono ?_
  rintro e w2 ⟨r, rfl, hay, -, hb2⟩
  have h02 := h01.below hb2
  have h12 := h11.below hb2
  have hB2 : Below w0.heap.size w0 w2 := hb1.trans (hb2.mono hb1.size)
  cases r
  · clear hay
    go_wp2_with fail
    go_ret
    exact ⟨rfl, hB2⟩
  have hy := hay rfl
  clear hay h01 h11 hb1 hb2
  go_wp2_with fail
  refine (clone_any p0 n cap0 xs w2 (by omega) h02 HN0.out).mono ?_
  rintro e w3 ⟨pa, rfl, hca, hb3⟩
  have h03 := h02.below hb3
  have h13 := h12.below hb3
  have hB3 : Below w0.heap.size w0 w3 := hB2.trans (hb3.mono hB2.size)
  go_wp2_with fail
  refine (clone_any p1 m cap1 ys w3 (by omega) h13 HN1.out).mono ?_
  rintro e w4 ⟨pb, rfl, hcb, hb4⟩
  have hB4 : Below w0.heap.size w0 w4 := hB3.trans (hb4.mono hB3.size)
  have hap := cloned_apart hca hcb
  have hca4 : Cloned w4 w2.heap.size pa n xs := hca.below hb4
  have hcb4 : Cloned w4 w2.heap.size pb m ys := hcb.mono hb3.size
  have hs24 : w2.heap.size ≤ w4.heap.size := Nat.le_trans hb3.size hb4.size
  clear hca hcb h03 h13
  go_wp2_with fail
  refine (zzInter_any pa n xs pb m ys w2.heap.size w4 (by omega) hs24 hca4 hcb4 hap hx hy).mono ?_
  rintro e w5 ⟨pg, cg, rfl, hg, -, hb5⟩
  have hb25 : Below w2.heap.size w2 w5 := ((hb3.trans (hb4.mono hb3.size))).trans hb5
  have hB5 : Below w0.heap.size w0 w5 := hB2.trans (hb25.mono hB2.size)
  have h05 := h02.below hb25
  have h15 := h12.below hb25
  clear h02 h12 hb3 hb4 hb5 hb25 hca4 hcb4 hap hs24 hB2 hB3 hB4
  generalize hgs : Lode.inter xs ys = gs at hg ⊢
  have HGS : Hid (Lode.inter xs ys = gs) := hgs
  clear hgs
  obtain ⟨hl0, hrow0⟩ := h05
  obtain ⟨hlg, hrowg⟩ := hg
  have HL0 : Hid (xs.length = n) := hl0
  clear hl0 hlg
  go_wp2_with fail
  go_loopw [6, 7] (fun s6 s7 wr => ∃ t c : Nat, t ≤ n ∧ c ≤ t ∧ Hid (c = Lode.cnt xs ys t) ∧ s6 = .int .i64 c ∧ s7 = .int .i64 t ∧ Below w5.heap.size w5 wr) (fun _ s7 _ => n - (intOf s7).toNat)
  case atStart => exact ⟨0, 0, Nat.zero_le _, Nat.le_refl _, rfl, rfl, rfl, Below.refl _ _⟩
  case round =>
    obtain ⟨t, c, ht, hct, HC, rfl, rfl, hbt⟩ := hrel
    by_cases hlt : t < n
    · rcases hrow0 with hz0 | ⟨b, off, rfl, hbl, hc⟩
      · omega
      obtain ⟨x, hxe⟩ : ∃ x, x = xs.getD t 0 := ⟨_, rfl⟩
      have cx : wr.cell? ⟨b, off + t, none⟩ = some (.int .u32 x) := by rw [hxe]; exact (hbt.cell (by exact hbl)).trans (hc t hlt)
      have HX : Hid (x = xs.getD t 0) := hxe
      clear hc hxe
      have hh := has_any p1 m cap1 ys x wr (by omega) (h15.below hbt) hy
      by_cases hmem : x ∈ ys
      · have hin := Lode.inter_at (xs := xs) (ys := ys) (k := t) (by rw [HL0.out]; exact hlt) (by rw [← HX.out]; exact hmem)
        rw [HGS.out, ← HC.out, ← HX.out] at hin
        obtain ⟨hcl, hgc⟩ := hin
        have HC2 : Hid (c + 1 = Lode.cnt xs ys (t + 1)) := by
          unfold Hid
          rw [Lode.cnt_hit (by rw [HL0.out]; exact hlt) (by rw [← HX.out]; exact hmem), ← HC.out]
        rcases hrowg with hz1 | ⟨bg, offg, rfl, hblg, hcg⟩
        · omega
        have cg2 : wr.cell? ⟨bg, offg + c, none⟩ = some (.int .u32 x) := by rw [← hgc]; exact (hbt.cell (by exact hblg)).trans (hcg c hcl)
        clear hgc hcg
        rw [show hasU ys x = true from decide_eq_true hmem] at hh
        clear hmem
        have i1 : (c : Int) < (gs.length : Int) := by omega
        have i2 : (t : Int) < (n : Int) := by omega
        have hd : decide ((gs.length : Int) ≤ (c : Int)) = false := by simp; omega
        have hxx : (x != x) = false := by simp
        go_wp2_with (go_at_call 13; refine hh.mono ?_; rintro e w7 ⟨rfl, rfl⟩)
        go_quiet (fail)
        go_wp2_with fail
        go_roundw
        case rel => exact ⟨t + 1, c + 1, by omega, by omega, HC2, by go_num, by go_num, below_drewN hbt nq⟩
        case measure => simp [intOf]; omega
      · have HC2 : Hid (c = Lode.cnt xs ys (t + 1)) := by
          unfold Hid
          rw [Lode.cnt_miss (by rw [HL0.out]; exact hlt) (by rw [← HX.out]; exact hmem), ← HC.out]
        rw [show hasU ys x = false from decide_eq_false hmem] at hh
        clear hmem
        go_wp2_with (go_at_call 13; refine hh.mono ?_; rintro e w7 ⟨rfl, rfl⟩)
        go_roundw
        case rel => exact ⟨t + 1, c, by omega, by omega, HC2, rfl, by go_num, hbt⟩
        case measure => simp [intOf]; omega
    · have e0 : t = n := by omega
      subst e0
      have hcg : c = gs.length := by
        have := Lode.cnt_all xs ys
        rw [HL0.out, ← HC.out, HGS.out] at this
        exact this
      subst hcg
      go_wp2_with fail
      go_ret
      exact ⟨rfl, hB5.trans (hbt.mono hB5.size)⟩

end Go.Proofs.Qxb6619298a
