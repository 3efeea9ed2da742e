/-
  Seat b6619298a: the walk of FnSupersededIsHeldByAnother.
-/
import Derived.Test.Qxb6619298aZZSup
import Derived.Test.Qxb6619298aSupBytes
import Derived.Test.Qxb6619298aSupLaw
import Derived.Test.Qxb6619298aCovers
namespace Go.Proofs.Qxb6619298a
open Go.RowKit Go.Maps Go.WideMaps

/-- None of the first t lists is a hit for list q. -/
def missTo (rows : List Src) (q t : Nat) : Prop := ∀ j, j < t → hitB rows q j = false
theorem missTo_zero (rows : List Src) (q : Nat) : missTo rows q 0 := fun _ h => absurd h (Nat.not_lt_zero _)
theorem missTo_step {rows : List Src} {q t : Nat} (h : missTo rows q t) (hh : hitB rows q t = false) : missTo rows q (t + 1) := fun j hj => by
  by_cases e : j = t
  · subst e; exact hh
  · exact h j (by omega)
theorem supB_none {rows : List Src} {n q : Nat} (h : missTo rows q n) : supB rows n q = false := by
  rw [Bool.eq_false_iff]
  intro hs
  obtain ⟨_, j, hj, hh⟩ := (Lode.supAt_iff _ _ _).1 hs
  have := h j hj
  unfold hitB at this
  rw [this] at hh
  cases hh
theorem hitB_covers {rows : List Src} {q t : Nat} (hne : t ≠ q) {a : Option Addr} {m cap : Nat} {ss : List ByteArray} (he : srcAt rows q = ⟨a, m, cap, ss⟩) {a2 : Option Addr} {m2 cap2 : Nat} {ts : List ByteArray} (he2 : srcAt rows t = ⟨a2, m2, cap2, ts⟩) :
    hitB rows q t = (coversB ts ss && (extraB ts ss || decide (t < q))) := by
  rw [hitB_ne hne, he, he2, holdsB_eq]

set_option maxHeartbeats 4000000 in
set_option maxRecDepth 100000 in
theorem held_walk (a : Option Addr) (n cap : Nat) (rows : List Src) (w : World) (hn : n ≤ maxLen) (hs : Srcs w a n rows) :
    Calls Try.prog 7 #[.slice a n cap] w fun e w' => e = .returned (.bool true) ∧ Below w.heap.size w w' := by
  have hz := zzBytes23_any a n cap rows w hn hs
  have htb := tooBig_any a n cap rows w hn hs
  unfold maxLen at hn
  go_enter Try.func7, Try.ntmps7
  go_wp2_with fail
  refine hz.mono ?_
  clear hz
  rintro e w1 ⟨⟨r, rfl⟩, rfl⟩
  cases r
  · clear htb
    go_wp2_with fail
    go_ret
    exact ⟨rfl, Below.refl _ _⟩
  go_wp2_with fail
  refine htb.mono ?_
  clear htb
  rintro e w1 ⟨⟨r, rfl, hbd⟩, rfl⟩
  cases r
  case true =>
    clear hbd
    go_wp2_with fail
    go_ret
    exact ⟨rfl, Below.refl _ _⟩
  obtain ⟨hn2, hcap⟩ := hbd rfl
  have HCAP : Hid (∀ i, (srcAt rows i).n ≤ 4096) := hcap
  clear hbd hcap
  go_wp2_with fail
  refine (zzSup_any a n cap rows w1 (by omega) HCAP.out hs).mono ?_
  rintro e w2 ⟨H1, rfl, hH1, hf1, hb2⟩
  have hs2 := hs.below hb2
  clear hs hH1
  obtain ⟨hl, hro, hrow⟩ := hs2
  have HL : Hid (rows.length = n) := hl
  clear hl
  go_wp2_with fail
  go_loopw [4] (fun i wr => ∃ q : Nat, q ≤ n ∧ i = .int .i64 q ∧ Below w2.heap.size w2 wr) (fun i _ => n - (intOf i).toNat)
  case atStart => exact ⟨0, Nat.zero_le _, rfl, Below.refl _ _⟩
  case round =>
    obtain ⟨q, hq, rfl, hbq⟩ := hrel
    obtain ⟨wq, rfl⟩ : ∃ wq : World, wq = wr := ⟨_, rfl⟩
    by_cases hlt : q < n
    · rcases hrow with h0 | ⟨b, off, rfl, hbl, hc⟩
      · omega
      obtain ⟨am, m, capm, ss, he⟩ : ∃ a m cap ss, srcAt rows q = ⟨a, m, cap, ss⟩ := ⟨_, _, _, _, rfl⟩
      have hcq : wq.cell? ⟨b, off + q, none⟩ = some (.slice am m capm) := by rw [(hbq.cell (p := ⟨b, off + q, none⟩) hbl), hc q hlt, he]; rfl
      have hrq := hro q
      have hmq := HCAP.out q
      rw [he] at hrq hmq
      simp only at hrq hmq
      have HE : Hid (srcAt rows q = ⟨am, m, capm, ss⟩) := he
      clear he
      have g1 := (hf1.below hbq hf1.lt).cell hlt
      by_cases hm0 : m = 0
      · have hsup : supB rows n q = false := supB_nil (by rw [HE.out]; exact List.length_eq_zero_iff.1 (hrq.1.trans hm0))
        rw [hsup] at g1
        clear hsup
        subst hm0
        clear hc
        go_wp2_with fail
        go_roundw
        case rel => exact ⟨q + 1, by omega, by go_num, hbq⟩
        case measure => simp [intOf]; omega
      · have HC : Hid (∀ j, j < n → w2.cell? ⟨b, off + j, none⟩ = some (srcAt rows j).val) := hc
        have HG : Hid (wq.cell? ⟨H1, q, none⟩ = some (.bool (supB rows n q))) := g1
        clear hc g1
        have hmp : 0 < m := by omega
        go_wp2_with fail
        go_loopw [5, 6] (fun v5 i wr => ∃ t : Nat, t ≤ n ∧ v5 = .bool false ∧ i = .int .i64 t ∧ Below wq.heap.size wq wr ∧ Hid (missTo rows q t)) (fun _ i _ => n - (intOf i).toNat)
        case atStart => exact ⟨0, Nat.zero_le _, rfl, rfl, Below.refl _ _, missTo_zero rows q⟩
        case round =>
          obtain ⟨t, ht, rfl, rfl, hbt, HM⟩ := hrel
          have hb2t : Below w2.heap.size w2 wr := hbq.trans (hbt.mono hbq.size)
          have HG2 : Hid (wr.cell? ⟨H1, q, none⟩ = some (.bool (supB rows n q))) := (hf1.below hb2t hf1.lt).cell hlt
          by_cases hlt2 : t < n
          · obtain ⟨aj, mj, capj, ts, hej⟩ : ∃ a m cap ss, srcAt rows t = ⟨a, m, cap, ss⟩ := ⟨_, _, _, _, rfl⟩
            have d1 : wr.cell? ⟨b, off + t, none⟩ = some (.slice aj mj capj) := by rw [(hb2t.cell (p := ⟨b, off + t, none⟩) hbl), HC.out t hlt2, hej]; rfl
            have d2 : wr.cell? ⟨b, off + q, none⟩ = some (.slice am m capm) := by rw [(hb2t.cell (p := ⟨b, off + q, none⟩) hbl), HC.out q hlt, HE.out]; rfl
            have hrj := hro t
            have hmj := HCAP.out t
            rw [hej] at hrj hmj
            simp only at hrj hmj
            have HEJ : Hid (srcAt rows t = ⟨aj, mj, capj, ts⟩) := hej
            clear hej hcq
            have i1 : (t : Int) < (n : Int) := by omega
            have i2 : (q : Int) < (n : Int) := by omega
            have HCV : Hid (∀ nq, Calls Try.prog 19 #[.slice aj mj capj, .slice am m capm] (wr.drewN nq) fun e w' => e = .returned (.bool (coversB ts ss)) ∧ w' = wr.drewN nq) :=
              fun nq => covers_any aj mj capj ts am m capm ss _ (by omega) (by omega) (hrj.below (below_drewN hb2t nq)) (hrq.below (below_drewN hb2t nq))
            have HEX : Hid (∀ nq, Calls Try.prog 20 #[.slice aj mj capj, .slice am m capm] (wr.drewN nq) fun e w' => e = .returned (.bool (extraB ts ss)) ∧ w' = wr.drewN nq) :=
              fun nq => extra_any aj mj capj ts am m capm ss _ (by omega) (by omega) (hrj.below (below_drewN hb2t nq)) (hrq.below (below_drewN hb2t nq))
            by_cases htq : t = q
            · subst htq
              go_wp2_with fail
              go_quiet (fail)
              go_wp2_with fail
              go_roundw
              case rel => exact ⟨t + 1, by omega, rfl, by go_num, below_drewN hbt nq, missTo_step HM.out (hitB_self rows t)⟩
              case measure => simp [intOf]; omega
            · have g0 : ((t : Int) != (q : Int)) = true := by rw [bne_iff_ne]; omega
              have HHE : Hid (hitB rows q t = (coversB ts ss && (extraB ts ss || decide (t < q)))) := hitB_covers htq HE.out HEJ.out
              generalize coversB ts ss = cb at HCV HHE
              generalize extraB ts ss = xb at HEX HHE
              cases cb
              · have HF : Hid (hitB rows q t = false) := HHE.out
                go_wp2_with fail
                go_quiet ((go_at_call 19; exact Calls.quiet_of_same (HCV.out _)))
                go_wp2_with fail
                go_roundw
                case rel => exact ⟨t + 1, by omega, rfl, by go_num, below_drewN hbt nq, missTo_step HM.out HF.out⟩
                case measure => simp [intOf]; omega
              · by_cases htl : t < q
                · have hd : decide ((t : Int) < (q : Int)) = true := by simp; omega
                  have HF : Hid (hitB rows q t = true) := by
                    unfold Hid
                    rw [HHE.out, decide_eq_true htl]
                    simp
                  have gq : wr.cell? ⟨H1, q, none⟩ = some (.bool true) := by rw [HG2.out, supB_hit (by rw [HE.out]; show 0 < ss.length; rw [hrq.1]; omega) hlt2 HF.out]
                  go_wp2_with fail
                  go_quiet ((go_at_call 19; exact Calls.quiet_of_same (HCV.out _)))
                  go_wp2_with fail
                  go_roundw
                  case rel => exact ⟨q + 1, by omega, by go_num, below_drewN hb2t nq⟩
                  case measure => simp [intOf]; omega
                · have hd : decide ((t : Int) < (q : Int)) = false := by simp; omega
                  cases xb
                  · have HF : Hid (hitB rows q t = false) := by
                      unfold Hid
                      rw [HHE.out, decide_eq_false htl]
                      simp
                    go_wp2_with fail
                    go_quiet ((first | (go_at_call 19; exact Calls.quiet_of_same (HCV.out _)) | (go_at_call 20; exact Calls.quiet_of_same (HEX.out _))))
                    go_wp2_with fail
                    go_roundw
                    case rel => exact ⟨t + 1, by omega, rfl, by go_num, below_drewN hbt nq, missTo_step HM.out HF.out⟩
                    case measure => simp [intOf]; omega
                  · have HF : Hid (hitB rows q t = true) := by
                      unfold Hid
                      rw [HHE.out]
                      simp
                    have gq : wr.cell? ⟨H1, q, none⟩ = some (.bool true) := by rw [HG2.out, supB_hit (by rw [HE.out]; show 0 < ss.length; rw [hrq.1]; omega) hlt2 HF.out]
                    go_wp2_with fail
                    go_quiet ((first | (go_at_call 19; exact Calls.quiet_of_same (HCV.out _)) | (go_at_call 20; exact Calls.quiet_of_same (HEX.out _))))
                    go_wp2_with fail
                    go_roundw
                    case rel => exact ⟨q + 1, by omega, by go_num, below_drewN hb2t nq⟩
                    case measure => simp [intOf]; omega
          · have e1 : t = n := by omega
            subst e1
            have gq : wr.cell? ⟨H1, q, none⟩ = some (.bool false) := by rw [HG2.out, supB_none HM.out]
            go_wp2_with fail
            go_roundw
            case rel => exact ⟨q + 1, by omega, by go_num, hb2t⟩
            case measure => simp [intOf]; omega
    · have e0 : q = n := by omega
      subst e0
      go_wp2_with fail
      go_ret
      exact ⟨rfl, hb2.trans (hbq.mono hb2.size)⟩

end Go.Proofs.Qxb6619298a
