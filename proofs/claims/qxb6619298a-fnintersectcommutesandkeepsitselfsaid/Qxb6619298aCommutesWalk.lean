/-
  Seat b6619298a: the walk of FnIntersectCommutesAndKeepsItself.
-/
import Derived.Test.Qxb6619298aInter
namespace Go.Proofs.Qxb6619298a
open Go.RowKit

/-- A slice of uint32 of the call's own reads as its numbers. -/
theorem Cloned.u32s {w : World} {base : Nat} {p : Option Addr} {n : Nat} {xs : List Int} (h : Cloned w base p n xs) : U32s w p n xs := by
  obtain ⟨h1, h2⟩ := h
  refine ⟨h1, ?_⟩
  rcases h2 with h2 | ⟨B, e, _, hlt, ht⟩
  · exact .inl h2
  · exact .inr ⟨B, 0, e, hlt, fun j hj => by rw [Nat.zero_add]; exact ht.cell (Nat.zero_le _) hj⟩
theorem Cloned.nil0 {w : World} {base : Nat} {p : Option Addr} {n : Nat} {xs : List Int} (h : Cloned w base p n xs) : p = none → n = 0 := by
  intro e
  rcases h.2 with h2 | ⟨B, e2, _⟩
  · exact h2
  · rw [e] at e2; cases e2

set_option maxHeartbeats 4000000 in
set_option maxRecDepth 100000 in
theorem commutes_walk (p0 : Option Addr) (n cap0 : Nat) (xs : List Int) (p1 : Option Addr) (m cap1 : Nat) (ys : List Int) (w : World) (hn : n ≤ maxLen) (hm : m ≤ maxLen)
    (h0 : U32s w p0 n xs) (h1 : U32s w p1 m ys) (hnil0 : p0 = none → n = 0) (hnil1 : p1 = none → m = 0) :
    Calls Try.prog 4 #[.slice p0 n cap0, .slice p1 m cap1] w fun e w' => e = .returned (.bool true) ∧ Below w.heap.size w w' := by
  have hz := zzBytes14_any p0 n cap0 p1 m cap1 w hn hm
  have HN0 : Hid (p0 = none → n = 0) := hnil0
  have HN1 : Hid (p1 = none → m = 0) := hnil1
  clear hnil0 hnil1
  unfold maxLen at hn hm
  by_cases hbig : 65536 < n
  · go_enter Try.func4, Try.ntmps4
    go_wp2_with fail
    refine hz.mono ?_
    rintro e w1 ⟨⟨r, rfl⟩, rfl⟩
    cases r
    · go_wp2_with fail
      go_ret
      exact ⟨rfl, Below.refl _ _⟩
    · go_wp2_with fail
      go_ret
      exact ⟨rfl, Below.refl _ _⟩
  by_cases hbig2 : 65536 < m
  · go_enter Try.func4, Try.ntmps4
    go_wp2_with fail
    refine hz.mono ?_
    rintro e w1 ⟨⟨r, rfl⟩, rfl⟩
    cases r
    · go_wp2_with fail
      go_ret
      exact ⟨rfl, Below.refl _ _⟩
    · go_wp2_with fail
      go_ret
      exact ⟨rfl, Below.refl _ _⟩
  go_enter Try.func4, Try.ntmps4
  go_wp2_with fail
  refine hz.mono ?_
  clear hz
  rintro e w0 ⟨⟨r, rfl⟩, rfl⟩
  cases r
  · go_wp2_with fail
    go_ret
    exact ⟨rfl, Below.refl _ _⟩
  go_wp2_with fail
  refine (asc_any p0 n cap0 xs w0 (by omega) h0).mono ?_
  rintro e w1 ⟨r, rfl, hax, -, hb1⟩
  have h01 := h0.below hb1
  have h11 := h1.below hb1
  cases r
  · clear hax
    go_wp2_with fail
    go_ret
    exact ⟨rfl, hb1⟩
  have hx := hax rfl
  clear hax h0 h1
  go_wp2_with fail
  refine (asc_any p1 m cap1 ys w1 (by omega) h11).mono ?_
  rintro e w2 ⟨r, rfl, hay, -, hb2⟩
  have h02 := h01.below hb2
  have h12 := h11.below hb2
  have hB2 : Below w0.heap.size w0 w2 := hb1.trans (hb2.mono hb1.size)
  cases r
  · clear hay
    go_wp2_with fail
    go_ret
    exact ⟨rfl, hB2⟩
  have hy := hay rfl
  clear hay h01 h11 hb1 hb2
  have HX : Hid (Lode.Asc xs) := hx
  have HY : Hid (Lode.Asc ys) := hy
  clear hx hy
  have HLi : Hid ((Lode.inter xs ys).length ≤ 65536) := by
    have h1 := List.length_filter_le (fun x => decide (x ∈ ys)) xs
    have h2 := h02.1
    unfold Hid Lode.inter
    omega
  -- ab: the clone of intersect of two clones
  go_wp2_with fail
  refine (clone_any p0 n cap0 xs w2 (by omega) h02 HN0.out).mono ?_
  rintro e w3 ⟨pa, rfl, hca, hb3⟩
  go_wp2_with fail
  refine (clone_any p1 m cap1 ys w3 (by omega) (h12.below hb3) HN1.out).mono ?_
  rintro e w4 ⟨pb, rfl, hcb, hb4⟩
  go_wp2_with fail
  refine (zzInter_any pa n xs pb m ys w2.heap.size w4 (by omega) (Nat.le_trans hb3.size hb4.size) (hca.below hb4) (hcb.mono hb3.size) (cloned_apart hca hcb) HX.out HY.out).mono ?_
  rintro e w5 ⟨pg, cg, rfl, hg, hgn, hb5⟩
  have hb25 : Below w2.heap.size w2 w5 := ((hb3.trans (hb4.mono hb3.size))).trans hb5
  clear hca hcb hb3 hb4 hb5
  go_wp2_with fail
  refine (clone_any pg _ cg _ w5 (by have := HLi.out; omega) hg hgn).mono ?_
  rintro e w6 ⟨pab, rfl, hcab, hb6⟩
  have hb26 : Below w2.heap.size w2 w6 := hb25.trans (hb6.mono hb25.size)
  have h06 := h02.below hb26
  have h16 := h12.below hb26
  have hB6 : Below w0.heap.size w0 w6 := hB2.trans (hb26.mono hB2.size)
  have hab := hcab.u32s
  have HABN : Hid (pab = none → (Lode.inter xs ys).length = 0) := hcab.nil0
  clear hcab hb6 hb25 hb26 hg hgn h02 h12 hB2
  -- ba
  go_wp2_with fail
  refine (clone_any p1 m cap1 ys w6 (by omega) h16 HN1.out).mono ?_
  rintro e w7 ⟨pb2, rfl, hcb, hb7⟩
  go_wp2_with fail
  refine (clone_any p0 n cap0 xs w7 (by omega) (h06.below hb7) HN0.out).mono ?_
  rintro e w8 ⟨pa2, rfl, hca, hb8⟩
  go_wp2_with fail
  refine (zzInter_any pb2 m ys pa2 n xs w6.heap.size w8 (by omega) (Nat.le_trans hb7.size hb8.size) (hcb.below hb8) (hca.mono hb7.size) (cloned_apart hcb hca) HY.out HX.out).mono ?_
  rintro e w9 ⟨pba, cba, rfl, hba, -, hb9⟩
  rw [← Lode.inter_comm HX.out HY.out] at hba ⊢
  have hb69 : Below w6.heap.size w6 w9 := ((hb7.trans (hb8.mono hb7.size))).trans hb9
  have h09 := h06.below hb69
  have hab9 := hab.below hb69
  have hB9 : Below w0.heap.size w0 w9 := hB6.trans (hb69.mono hB6.size)
  clear hca hcb hb7 hb8 hb9 hb69 h06 h16 hab hB6
  -- aa
  go_wp2_with fail
  refine (clone_any p0 n cap0 xs w9 (by omega) h09 HN0.out).mono ?_
  rintro e w10 ⟨pa3, rfl, hca, hb10⟩
  go_wp2_with fail
  refine (clone_any p0 n cap0 xs w10 (by omega) (h09.below hb10) HN0.out).mono ?_
  rintro e w11 ⟨pa4, rfl, hcb, hb11⟩
  go_wp2_with fail
  refine (zzInter_any pa3 n xs pa4 n xs w9.heap.size w11 (by omega) (Nat.le_trans hb10.size hb11.size) (hca.below hb11) (hcb.mono hb10.size) (cloned_apart hca hcb) HX.out HX.out).mono ?_
  rintro e w12 ⟨paa, caa, rfl, haa, -, hb12⟩
  rw [Lode.inter_self] at haa ⊢
  have hb912 : Below w9.heap.size w9 w12 := ((hb10.trans (hb11.mono hb10.size))).trans hb12
  have h012 := h09.below hb912
  have hab12 := hab9.below hb912
  have hba12 := hba.below hb912
  have hB12 : Below w0.heap.size w0 w12 := hB9.trans (hb912.mono hB9.size)
  clear hca hcb hb10 hb11 hb12 hb912 h09 hab9 hba hB9
  -- back
  go_wp2_with fail
  refine (clone_any pab _ _ _ w12 (by have := HLi.out; omega) hab12 HABN.out).mono ?_
  rintro e w13 ⟨pc, rfl, hca, hb13⟩
  go_wp2_with fail
  refine (clone_any p0 n cap0 xs w13 (by omega) (h012.below hb13) HN0.out).mono ?_
  rintro e w14 ⟨pd, rfl, hcb, hb14⟩
  go_wp2_with fail
  refine (zzInter_any pc _ _ pd n xs w12.heap.size w14 (by have := HLi.out; omega) (Nat.le_trans hb13.size hb14.size) (hca.below hb14) (hcb.mono hb13.size) (cloned_apart hca hcb) (Lode.asc_inter HX.out ys) HX.out).mono ?_
  rintro e w15 ⟨pk, ck, rfl, hbk, -, hb15⟩
  rw [Lode.inter_back] at hbk ⊢
  have hb1215 : Below w12.heap.size w12 w15 := ((hb13.trans (hb14.mono hb13.size))).trans hb15
  have h015 := h012.below hb1215
  have hab15 := hab12.below hb1215
  have hba15 := hba12.below hb1215
  have haa15 := haa.below hb1215
  have hB15 : Below w0.heap.size w0 w15 := hB12.trans (hb1215.mono hB12.size)
  clear hca hcb hb13 hb14 hb15 hb1215 h012 hab12 hba12 haa hB12
  have hnx : xs.length = n := h015.1
  rw [hnx] at haa15 ⊢
  have HASC : Hid (Lode.Asc (Lode.inter xs ys)) := Lode.asc_inter HX.out ys
  generalize Lode.inter xs ys = gs at *
  have HNX : Hid (xs.length = n) := hnx
  clear hnx
  have hgl : gs.length ≤ 65536 := HLi.out
  -- the four tests
  go_wp2_with fail
  refine (equal_any pab gs.length gs.length pba cba gs w15 (by omega) hab15 hba15).mono ?_
  rintro e w16 ⟨rfl, hb16⟩
  go_wp2_with fail
  refine (asc_any pab gs.length gs.length gs w16 (by omega) (hab15.below hb16)).mono ?_
  rintro e w17 ⟨r, rfl, -, hasc, hb17⟩
  obtain rfl : r = true := hasc HASC.out
  have hb1517 : Below w15.heap.size w15 w17 := hb16.trans (hb17.mono hb16.size)
  go_wp2_with fail
  refine (equal_any paa n caa p0 cap0 xs w17 (by omega) (haa15.below hb1517) (h015.below hb1517)).mono ?_
  rintro e w18 ⟨rfl, hb18⟩
  have hb1518 : Below w15.heap.size w15 w18 := hb1517.trans (hb18.mono hb1517.size)
  go_wp2_with fail
  refine (equal_any pk gs.length ck pab gs.length gs w18 (by omega) (hbk.below hb1518) (hab15.below hb1518)).mono ?_
  rintro e w19 ⟨rfl, hb19⟩
  go_wp2_with fail
  go_ret
  exact ⟨rfl, hB15.trans ((hb1518.trans (hb19.mono hb1518.size)).mono hB15.size)⟩

end Go.Proofs.Qxb6619298a
