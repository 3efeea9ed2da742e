/-
  Seat b6619298a: the walk of superseded.
-/
import Derived.Test.Qxb6619298aSupBase
import Derived.Deep.RegionHeld3
import Derived.BigQuiet
import Derived.Deep.QuietTactic
namespace Go.Proofs.Qxb6619298a
open Go.RowKit Go.Maps Go.WideMaps

theorem flag_hit {f : Nat → Bool} {q i : Nat} (h : f q = true) : (if i < q + 1 then f i else false) = (if i = q then true else if i < q then f i else false) := by
  by_cases e : i = q
  · subst e; simp [h]
  · by_cases e2 : i < q
    · simp [e, e2, Nat.lt_succ_of_lt e2]
    · simp [e, e2, show ¬ i < q + 1 by omega]
theorem flag_miss {f : Nat → Bool} {q i : Nat} (h : f q = false) : (if i < q + 1 then f i else false) = (if i < q then f i else false) := by
  by_cases e : i = q
  · subst e; simp [h]
  · by_cases e2 : i < q
    · simp [e2, Nat.lt_succ_of_lt e2]
    · simp [e2, show ¬ i < q + 1 by omega]

/-- What superseded leaves: a new row of n flags. -/
def SupPost (w : World) (n : Nat) (rows : List Src) (e : Ending) (w' : World) : Prop :=
  ∃ Hb, e = .returned (.slice (some ⟨Hb, 0, none⟩) n n) ∧ w.heap.size ≤ Hb ∧ Flags w' Hb n (supB rows n) ∧ Below w.heap.size w w'

set_option maxHeartbeats 4000000 in
set_option maxRecDepth 100000 in
theorem sup_any (B n : Nat) (rows : List Src) (w : World) (hn : n ≤ 8192) (hcap : ∀ i, (srcAt rows i).n ≤ 4096) (hm : Metas w B n (fun i => (srcAt rows i).val)) (hr : RowsOk w rows) :
    Calls Try.prog 29 #[.slice (some ⟨B, 0, none⟩) n n] w fun e w' => SupPost w n rows e w' := by
  have hmm := @run_makeMap Try.prog
  have hBlt := hm.lt
  obtain ⟨i0, hi, hz0, hz1, hz2⟩ := info_parts info3
  go_enter Try.func29, Try.ntmps29
  go_wp2_with fail
  go_loopw [16] (fun i wr => ∃ k : Nat, k ≤ n ∧ i = .int .i64 k ∧ ∃ (c : Nat) (D : DataW Unit), c ≤ k * 4096 ∧ wr.ownsGroups Try.prog 9 (w.heap.size + 1) 3 .i64 w.heap.size c D ∧ Hid (Holders D (pAt rows k 0)) ∧
      Below w.heap.size w wr ∧ w.heap.size + 1 ≤ wr.heap.size) (fun i _ => n - (intOf i).toNat)
  case atStart => exact ⟨0, Nat.zero_le _, rfl, 0, _, by omega, World.ownsGroups_made _ _ _ _ _, Holders.empty (pAt_zero rows), (Below.refl _ _).alloc (Nat.le_refl _) _, by simp⟩
  case round =>
    obtain ⟨k, hk, rfl, c, D, hcc, hown, HH, hb, hws⟩ := hrel
    obtain ⟨wo, rfl⟩ : ∃ wo : World, wo = wr := ⟨_, rfl⟩
    by_cases hlt : k < n
    · have hm' := hm.below hb hBlt
      have hrk := hr k
      have hck := hcap k
      obtain ⟨a, m, cap, ss, he⟩ : ∃ a m cap ss, srcAt rows k = ⟨a, m, cap, ss⟩ := ⟨_, _, _, _, rfl⟩
      obtain ⟨c0, c1, c2, c3, c4, c5, c6, c7, c8, c9⟩ := hm'.ten hlt (v := .slice a m cap) (by rw [he]; rfl)
      rw [he] at hrk hck
      simp only at hrk hck
      have HE : Hid (srcAt rows k = ⟨a, m, cap, ss⟩) := he
      clear he hm'
      obtain ⟨hl, hsz, hrow⟩ := hrk
      have HL : Hid (ss.length = m) := hl
      clear hl
      go_wp2_with fail
      clear c0 c1 c2 c3 c4 c5 c6 c7 c8 c9
      go_loopw [25] (fun i wr => ∃ j : Nat, j ≤ m ∧ i = .int .i64 j ∧ ∃ (c : Nat) (D : DataW Unit), c ≤ k * 4096 + j ∧ wr.ownsGroups Try.prog 9 (w.heap.size + 1) 3 .i64 w.heap.size c D ∧ Hid (Holders D (pAt rows k j)) ∧
          Below w.heap.size w wr ∧ w.heap.size + 1 ≤ wr.heap.size) (fun i _ => m - (intOf i).toNat)
      case atStart => exact ⟨0, Nat.zero_le _, rfl, c, D, by omega, groups_below hown ((Below.refl _ _).alloc (Nat.le_refl _) _), HH, hb.alloc hb.size _, by simp; omega⟩
      case round =>
        clear hown HH hb hws hcc c D
        obtain ⟨j, hj, rfl, c, D, hcc, hown, HH, hb, hws⟩ := hrel
        by_cases hlt2 : j < m
        · rcases hrow with h0 | ⟨b, off, rfl, hbl, hc⟩
          · omega
          obtain ⟨s, hs0⟩ : ∃ s, s = ss.getD j ByteArray.empty := ⟨_, rfl⟩
          have hcx : wr.cell? ⟨b, off + j, none⟩ = some (.string s) := by rw [hs0]; exact (hb.cell (by exact hbl)).trans (hc j hlt2)
          have hkey : keyOf Try.prog 9 (.string s) = some (kl s.data.toList) := keyOf9 (by rw [hs0]; exact size_getD hsz j)
          have HS : Hid (s = ss.getD j ByteArray.empty) := hs0
          clear hc hs0
          go_wp2_with (first
            | (at_lookup; refine wpList_lookup_groups _ rfl _ _ 50 rfl 9 51 3 .i64 law9 Try.underlying50 (zero51 _) (w.heap.size + 1) w.heap.size c _ rfl hown (by unfold maxLen; omega) _ _ rfl hkey ?_; intro v zs hat hoi hzl hback)
            | (at_builtin; refine wpList_append_own_at _ rfl _ _ 51 rfl (w.heap.size + 1) 3 i0 (.int .i64 0) 1 8 Try.underlying51 hi hz0 hz1 hz2 rfl (by decide) _ _ _ rfl (hoi.1.alloc _) ⟨wr.heap.size, 0, none⟩ 1 1 [.int .i64 k] rfl rfl (cell_one_new _ _ _) (ints_oneCell .i64 [(k : Int)]) (by unfold maxLen; omega) (by omega) (by simp; omega) ?_; intro v' w1 hown' hgrow hnil hloc)
            | (at_mapUpdate; refine wpList_mapUpdate_back _ rfl _ _ _ 50 rfl hback rfl rfl rfl ((World.grownBy_alloc _ _ _).trans hgrow) (hoi.appended hown' (WalkArith.wf_i64 (by omega))) (by simp; omega) (hloc.elim Or.inl (fun h => Or.inr ⟨_, h, by simp⟩)) ?_; intro w2 hown2 hgrow2)
            | go_in)
          have hall := (World.grownBy_alloc wr _ _).trans hgrow
          go_roundw
          case rel =>
            refine ⟨j + 1, by omega, by go_num, c + 1, D.put (kl s.data.toList) (.slice (ChangeShapes.lits .i64 (zs ++ [(k : Int)])) []), by omega, ?_, ?_, hb.groups hoi hall hgrow2 hb.size (Nat.le_succ _) (Nat.le_refl _), Nat.le_trans hws (Nat.le_trans hall.size hgrow2.size)⟩
            · rw [← (hoi.appended hown' (WalkArith.wf_i64 (by omega))).datum_pos (by simp)]
              exact hown2
            exact Holders.step HH.out (isMap_groups hown) hoi hat (pAt_step HE.out (by rw [HL.out]; exact hlt2) HS.out)
          case measure => simp [intOf]; omega
        · have e1 : j = m := by omega
          subst e1
          go_wp2_with fail
          go_roundw
          case rel =>
            refine ⟨k + 1, by omega, by go_num, c, D, by omega, hown, Holders.congr HH.out (fun key m => ?_), hb, hws⟩
            rw [pAt_next HE.out, HL.out]
          case measure => simp [intOf]; omega
    · have e0 : k = n := by omega
      subst e0
      have hmk := fun (u : World) => run_make37 k hn u
      have hc26 : c < maxLen := by unfold maxLen; omega
      go_wp2_with fail
      go_loopw [44] (fun i wr => ∃ q : Nat, q ≤ k ∧ i = .int .i64 q ∧ Below wo.heap.size wo wr ∧ Flags wr wo.heap.size k (fun i => if i < q then supB rows k i else false)) (fun i _ => k - (intOf i).toNat)
      case atStart => exact ⟨0, Nat.zero_le _, rfl, (Below.refl _ _).alloc (Nat.le_refl _) _, (Flags.made wo k).congr (fun i _ => by simp)⟩
      case round =>
        obtain ⟨q, hq, rfl, hbq, hfl⟩ := hrel
        obtain ⟨wp, rfl⟩ : ∃ wp : World, wp = wr := ⟨_, rfl⟩
        have hbw : Below w.heap.size w wp := hb.trans (hbq.mono hb.size)
        by_cases hlt2 : q < k
        · have hrk := (hr q).below hbw
          have hck := hcap q
          obtain ⟨a, m, cap, ss, he⟩ : ∃ a m cap ss, srcAt rows q = ⟨a, m, cap, ss⟩ := ⟨_, _, _, _, rfl⟩
          obtain ⟨c0, c1, c2, c3, c4, c5, c6, c7, c8, c9⟩ := (hm.below hbw hBlt).ten hlt2 (v := .slice a m cap) (by rw [he]; rfl)
          rw [he] at hrk hck
          simp only at hrk hck
          have HE : Hid (srcAt rows q = ⟨a, m, cap, ss⟩) := he
          clear he
          have hgr := groups_below hown (hbq.alloc hbq.size (.cells #[.string ByteArray.empty, .int .i64 0, .int .i64 0, .int .u64 0, .int .u64 0, .int .u64 0, .int .u64 0, .int .i64 0, .slice a m cap, .int .i64 0] 47))
          by_cases hm0 : m = 0
          · subst hm0
            go_wp2_with fail
            go_roundw
            case rel =>
              have hba := (Below.refl wp.heap.size wp).alloc (Nat.le_refl _) (.cells #[.string ByteArray.empty, .int .i64 0, .int .i64 0, .int .u64 0, .int .u64 0, .int .u64 0, .int .u64 0, .int .i64 0, .slice a 0 cap, .int .i64 0] 47)
              refine ⟨q + 1, by omega, by go_num, hbq.trans (hba.mono hbq.size), (hfl.below hba hfl.lt).congr (fun i hi => ?_)⟩
              have hsup : supB rows k q = false := supB_nil (by rw [HE.out]; exact List.length_eq_zero_iff.1 hrk.1)
              exact flag_miss hsup
            case measure => simp [intOf]; omega
          · have hmb : ((m : Int) == 0) = false := beq_eq_false_iff_ne.2 (by omega)
            have hrow := hrk.2.2
            rcases hrow with h0 | ⟨b, off, rfl, hbl, hc⟩
            · omega
            obtain ⟨s, hs0⟩ : ∃ s, s = ss.getD 0 ByteArray.empty := ⟨_, rfl⟩
            have hcx : wp.cell? ⟨b, off, none⟩ = some (.string s) := by rw [hs0]; exact hc 0 (by omega)
            have hkey : keyOf Try.prog 9 (.string s) = some (kl s.data.toList) := keyOf9 (by rw [hs0]; exact size_getD hrk.2.1 0)
            have HS : Hid (s = ss.getD 0 ByteArray.empty) := hs0
            clear hc hs0
            go_wp2_with (first
              | (at_lookup; refine wpList_lookup_read _ rfl _ _ 50 rfl 9 51 law9 Try.underlying50 (zero51 _) (w.heap.size + 1) w.heap.size c D rfl hgr hc26 _ _ rfl hkey _ HH.out ?_; intro a4 cap4 zs hints hzl hmem))
            clear c0 c1 c2 c3 c4 c5 c6 c7 c8 c9 hcx hgr
            go_loopw [62] (fun i wr => ∃ t : Nat, t ≤ zs.length ∧ i = .int .i64 t ∧ Below wp.heap.size wp wr ∧ wp.heap.size < wr.heap.size ∧ wr.cell? ⟨wp.heap.size, 8, none⟩ = some (.slice (some ⟨b, off, none⟩) m cap) ∧ Ints wr a4 zs ∧ Hid (noHit rows q zs t)) (fun i _ => zs.length - (intOf i).toNat)
            case atStart => exact ⟨0, Nat.zero_le _, rfl, (Below.refl _ _).alloc (Nat.le_refl _) _, by simp, by simp, hints, noHit_zero rows q zs⟩
            case round =>
              clear hints
              obtain ⟨t, ht, rfl, hbt, hlw, h8, hints, HN⟩ := hrel
              by_cases hlt3 : t < zs.length
              · obtain ⟨jn, hjn, hjlt⟩ := num_lt hmem hlt3
                rcases hints with h0 | ⟨g, rfl, hgl, hcg⟩
                · rw [h0] at hlt3; exact absurd hlt3 (Nat.not_lt_zero _)
                have hcj : wr.cell? ⟨g, t, none⟩ = some (.int .i64 jn) := by rw [hcg t hlt3, hjn]
                have hbwr : Below w.heap.size w wr := hbw.trans (hbt.mono hbw.size)
                obtain ⟨aj, mj, capj, ssj, hej⟩ : ∃ a m cap ss, srcAt rows jn = ⟨a, m, cap, ss⟩ := ⟨_, _, _, _, rfl⟩
                obtain ⟨-, -, -, -, -, -, -, -, d8, -⟩ := (hm.below hbwr hBlt).ten hjlt (v := .slice aj mj capj) (by rw [hej]; rfl)
                have hrj := (hr jn).below hbwr
                have hcj2 := hcap jn
                rw [hej] at hrj hcj2
                simp only at hrj hcj2
                have hrq := (hr q).below hbwr
                rw [HE.out] at hrq
                simp only at hrq
                have HEJ : Hid (srcAt rows jn = ⟨aj, mj, capj, ssj⟩) := hej
                have HJN : Hid (zs.getD t 0 = (jn : Int)) := hjn
                have HM : Hid (∀ (i : Int), i ∈ zs ↔ ∃ m : Nat, i = (m : Int) ∧ pAt rows k 0 s.data.toList m) := hmem
                have HCG : Hid (∀ j, j < zs.length → wr.cell? ⟨g, j, none⟩ = some (.int .i64 (zs.getD j 0))) := hcg
                clear hej hjn hcg hmem
                by_cases hjq : jn = q
                · subst hjq
                  go_wp2_with fail
                  go_quiet (fail)
                  go_wp2_with fail
                  go_roundw
                  case rel => exact ⟨t + 1, by omega, by go_num, below_drewN hbt nq, by simpa using hlw, by simpa using h8, Ints.below (.inr ⟨g, rfl, hgl, HCG.out⟩) (below_drewN (Below.refl _ _) nq), noHit_step HN.out HJN.out (hitB_self rows jn)⟩
                  case measure => simp [intOf]; omega
                · have hg0 : ((jn : Int) != (q : Int)) = true := by rw [bne_iff_ne]; omega
                  go_wp2_with fail
                  go_region_held3 (fun w' => w'.cell? ⟨B, jn * 10 + 8, none⟩ = some (.slice aj mj capj) ∧ w'.cell? ⟨wp.heap.size, 8, none⟩ = some (.slice (some ⟨b, off, none⟩) m cap)) (first | go_keep | (exact ⟨cell_later hb9 d8, cell_later hb9 h8⟩))
                    (first | (go_at_call 28; refine (holdsAll_any aj mj capj ssj (some ⟨b, off, none⟩) m cap ss _ _ (by omega) (by omega) ?_ ?_).mono ?_; exact hrj; exact hrq; rintro e w9 ⟨rfl, hb9⟩))
                  have hb9' : Below wr.heap.size wr w9 := (Below.refl _ wr).drew.trans hb9
                  have hbt9 : Below wp.heap.size wp w9 := hbt.trans (hb9'.mono (Nat.le_of_lt hlw))
                  have hfl9 := hfl.below hbt9 hfl.lt
                  have hfz9 := hfl9.frozen q
                  have hfc9 := hfl9.cell hlt2
                  have h89 : w9.cell? ⟨wp.heap.size, 8, none⟩ = some (.slice (some ⟨b, off, none⟩) m cap) := cell_later hb9' h8
                  have hin9 : Ints w9 (some ⟨g, 0, none⟩) zs := Ints.below (.inr ⟨g, rfl, hgl, HCG.out⟩) hb9'
                  have HB9 : Hid (Below wr.heap.size wr w9) := hb9'
                  clear hb9 hb9'
                  have HHE : Hid (hitB rows q jn = holdsB ssj ss (decide (jn < q))) := by
                    unfold Hid
                    rw [hitB_ne hjq, HEJ.out, HE.out]
                  cases hh : holdsB ssj ss (decide (jn < q))
                  · have HH0 : Hid (hitB rows q jn = false) := HHE.out.trans hh
                    go_wp2_with fail
                    go_roundw
                    case rel => exact ⟨t + 1, by omega, by go_num, hbt9, Nat.lt_of_lt_of_le hlw HB9.out.size, h89, hin9, noHit_step HN.out HJN.out HH0.out⟩
                    case measure => simp [intOf]; omega
                  · have HH0 : Hid (hitB rows q jn = true) := HHE.out.trans hh
                    go_wp2_with fail
                    go_roundw
                    case rel =>
                      refine ⟨q + 1, by omega, by go_num, (hbq.trans (hbt9.mono hbq.size)).setCell (Nat.le_refl _) _, (hfl9.set hlt2 true).congr (fun i hi => ?_)⟩
                      have hsup : supB rows k q = true := supB_hit (by rw [HE.out]; show 0 < ss.length; rw [hrq.1]; omega) hjlt HH0.out
                      exact flag_hit hsup
                    case measure => simp [intOf]; omega
              · have e3 : t = zs.length := by omega
                have HN2 : Hid (noHit rows q zs zs.length) := by rw [← e3]; exact HN
                clear HN
                have HM : Hid (∀ (i : Int), i ∈ zs ↔ ∃ m : Nat, i = (m : Int) ∧ pAt rows k 0 s.data.toList m) := hmem
                clear hmem
                subst e3
                go_wp2_with fail
                go_roundw
                case rel =>
                  refine ⟨q + 1, by omega, by go_num, hbq.trans (hbt.mono hbq.size), (hfl.below hbt hfl.lt).congr (fun i hi => ?_)⟩
                  have hsup : supB rows k q = false := supB_miss (ss := ss) (by rw [HE.out]) (by rw [hrk.1]; omega) HS.out HM.out HN2.out
                  exact flag_miss hsup
                case measure => simp [intOf]; omega
        · have e1 : q = k := by omega
          subst e1
          go_wp2_with fail
          go_ret
          exact ⟨wo.heap.size, rfl, hb.size, hfl.congr (fun i hi => by simp [hi]), hbw⟩

end Go.Proofs.Qxb6619298a
