/-
  Seat b6619298a: the walks of intersect and ZZIntersect.
-/
import Derived.Test.Qxb6619298aInterBase
import Derived.OwnWalk
namespace Go.Proofs.Qxb6619298a
open Go.RowKit

/-- The length of a slice in a slot: for a measure. -/
def lenV : Value → Nat | .slice _ n _ => n | _ => 0

theorem TwoRow.lt {w : World} {B n : Nat} {outs xs : List Int} {i : Nat} (h : TwoRow w B n outs xs i) : B < w.heap.size := by
  obtain ⟨cur, hb, _⟩ := h
  exact (Array.getElem?_eq_some_iff.1 hb).1
theorem TwoRow.cell {w : World} {B n : Nat} {outs xs : List Int} {i : Nat} (h : TwoRow w B n outs xs i) {t : Nat} (hi : i ≤ t) (ht : t < n) : w.cell? ⟨B, t, none⟩ = some (.int .u32 (xs.getD t 0)) := by
  obtain ⟨cur, hb, _, _, _, hc⟩ := h
  simp only [World.cell?, hb]
  simpa using hc t hi ht
theorem TwoRow.next {w : World} {B n : Nat} {outs xs : List Int} {i : Nat} (h : TwoRow w B n outs xs i) : TwoRow w B n outs xs (i + 1) := by
  obtain ⟨cur, hb, hs, hl, ho, hc⟩ := h
  exact ⟨cur, hb, hs, by omega, ho, fun t h1 h2 => hc t (by omega) h2⟩
theorem TwoRow.u32s {w : World} {B n : Nat} {outs xs : List Int} {i : Nat} (h : TwoRow w B n outs xs i) : U32s w (some ⟨B, 0, none⟩) outs.length outs := by
  refine ⟨rfl, .inr ⟨B, 0, rfl, h.lt, fun j hj => ?_⟩⟩
  obtain ⟨cur, hb, _, _, ho, _⟩ := h
  rw [Nat.zero_add]
  simp only [World.cell?, hb]
  simpa using ho j hj

theorem one_in {α : Type} (L : List α) (o : Nat) (v : α) (h : o < L.length) (t : Nat) : (L.take o ++ [v] ++ L.drop (o + 1))[t]? = if t = o then some v else L[t]? := by
  have e : L.take o ++ [v] ++ L.drop (o + 1) = L.set o v := by
    rw [List.set_eq_take_append_cons_drop, if_pos h]
    simp
  rw [e, List.getElem?_set]
  by_cases h1 : o = t
  · subst h1; simp [h]
  · rw [if_neg h1, if_neg (fun e => h1 e.symm)]

/-- 'out = append(out, a[0])', out at the head of the row: in place. -/
theorem wpList_append_two {P : Program} (w : World) {ops : Array Oper} {rest : List Oper} {o : Oper} {a : Act} {Q : Exit → Act → World → Prop}
    (hgd : o.guard = none) (s x : Operand) (t : TypeId) (ho : o.op = .call { callee := .builtin .append, args := #[s, x], argTypes := #[t, t] })
    (ht : P.underlying t = some (.slice 28)) (inf : TypeInfo) (hi : P.info? 28 = some inf) (hsz : inf.size = 1)
    (B n : Nat) (outs xs : List Int) (i : Nat) (hrow : TwoRow w B n outs xs i) (hin : i < n)
    (hs : a.eval s = .slice (some ⟨B, 0, none⟩) outs.length n) (ad : Addr) (c : Nat) (hx : a.eval x = .slice (some ad) 1 c) (v : Int) (hv : w.cell? ad = some (.int .u32 v))
    (hK : ∀ w', TwoRow w' B n (outs ++ [v]) xs (i + 1) → w.grownBy w' (some B) → wpList P ops Q rest (a.put o.dst (.slice (some ⟨B, 0, none⟩) (outs.length + 1) n)) w') :
    wpList P ops Q (o :: rest) a w := by
  refine wpList_plain hgd fun K hK' => ?_
  obtain ⟨cur, hb, hcs, hol, hoc, hxc⟩ := hrow
  have hr := run_append_room (P := P) w t o.type 28 inf ht hi B outs.length n cur hb ad 1 c [.int .u32 v] (by simp [hsz]) (fun j u hj => by
      match j, hj with
      | 0, hj =>
        simp at hj
        subst hj
        simpa [Addr.add] using hv) (by simp [Value.oneCell']) (by omega) (by simp [hsz]; omega)
  unfold Oper.wp
  simp [execOp, ho, resolve, invoke, builtin, hs, hx, hr, Result.andThen]
  refine hK' _ _ (hK _ ?_ ⟨rfl, rfl, rfl, by simp [World.setRow], fun k _ hk => setRow_other w B k _ (fun e => hk (by rw [e]))⟩)
  have hlen : outs.length < cur.size := by omega
  have hget : ∀ t, (List.take (outs.length * inf.size) cur.toList ++ Value.int .u32 v :: List.drop (outs.length * inf.size + 1) cur.toList).toArray[t]? = if t = outs.length then some (.int .u32 v) else cur[t]? := fun t => by
    have h := one_in cur.toList outs.length (Value.int .u32 v) (by simpa using hlen) t
    rw [List.append_assoc, List.singleton_append] at h
    rw [hsz, Nat.mul_one, List.getElem?_toArray, h]
    simp
  refine ⟨_, setRow_heap w B cur _ 28 _ hb, ?_, by simp; omega, ?_, ?_⟩
  · simp [hsz]; omega
  · intro t ht
    rw [List.length_append, List.length_singleton] at ht
    rw [hget t]
    by_cases e : t = outs.length
    · subst e
      simp [List.getD]
    · have htl : t < outs.length := by omega
      rw [if_neg e, hoc t htl]
      simp [List.getD, List.getElem?_append, htl]
  · intro t h1 h2
    rw [hget t, if_neg (by omega)]
    exact hxc t (by omega) h2

/-- The same heap and streams: nothing has turned. -/
theorem below_grow {B : Nat} {w w' : World} (h1 : w'.os = w.os) (h2 : w'.tape = w.tape) (h3 : w'.output = w.output) (h4 : w'.heap = w.heap) : Below B w w' := ⟨h1, h2, h3, by rw [h4]; exact Nat.le_refl _, fun _ _ => by rw [h4]⟩
theorem retS {p : Option Addr} {a b c : Nat} (h : a = b) : Ending.returned (.slice p a c) = .returned (.slice p b c) := by rw [h]

/-- What intersect leaves: a slice that reads as what the two share. -/
def InterPost (w : World) (base : Nat) (xs ys : List Int) (e : Ending) (w' : World) : Prop :=
  ∃ p c, e = .returned (.slice p (Lode.inter xs ys).length c) ∧ U32s w' p (Lode.inter xs ys).length (Lode.inter xs ys) ∧ (p = none → (Lode.inter xs ys).length = 0) ∧ Below base w w'

set_option maxHeartbeats 2000000 in
set_option maxRecDepth 100000 in
theorem inter_main (BA n : Nat) (xs : List Int) (BB m : Nat) (ys : List Int) (base : Nat) (w : World) (hn : n ≤ 1048576) (hnp : 0 < n) (hlx : xs.length = n) (hly : ys.length = m)
    (hne : BA ≠ BB) (hbase : base ≤ w.heap.size) (hbA : base ≤ BA) (hA : TwoRow w BA n [] xs 0) (hB : TwoRow w BB m [] ys 0) (hx : Lode.Asc xs) (hy : Lode.Asc ys) :
    Calls Try.prog 27 #[.slice (some ⟨BA, 0, none⟩) n n, .slice (some ⟨BB, 0, none⟩) m m] w fun e w' => InterPost w base xs ys e w' := by
  have HLX : Hid (xs.length = n) := hlx
  have HLY : Hid (ys.length = m) := hly
  clear hlx hly
  obtain ⟨inf, hinf, _, hsz, _⟩ := info_parts info28
  go_enter Try.func27, Try.ntmps27
  go_wp2_with fail
  go_loopw [0, 1, 5] (fun s0 s1 s5 wr => ∃ (i la j lb : Nat) (outs : List Int) (pa pb : Option Addr), Hid (i + la = n) ∧ Hid (j + lb = m) ∧ s0 = .slice pa la la ∧ (la = 0 ∨ pa = some ⟨BA, i, none⟩) ∧ s1 = .slice pb lb lb ∧ (lb = 0 ∨ pb = some ⟨BB, j, none⟩) ∧
      s5 = .slice (some ⟨BA, 0, none⟩) outs.length n ∧ Hid (Lode.InterAt xs ys i j outs) ∧ TwoRow wr BA n outs xs i ∧ TwoRow wr BB m [] ys 0 ∧ Below base w wr) (fun s0 s1 _ _ => lenV s0 + lenV s1)
  case atStart => exact ⟨0, n, 0, m, [], _, _, Nat.zero_add _, Nat.zero_add _, rfl, .inr rfl, rfl, .inr rfl, rfl, Lode.interAt_zero xs ys, hA, hB, Below.refl _ _⟩
  case round =>
    obtain ⟨i, la, j, lb, outs, pa, pb, HI, HJ, rfl, hpa, rfl, hpb, rfl, HAT, hrA, hrB, hbw⟩ := hrel
    by_cases hla : la = 0
    · subst hla
      have hdone := HAT.out.done (by rw [HLX.out, ← HI.out]; omega) (.inl (by rw [HLX.out, ← HI.out]; rfl))
      have HD : Hid (outs = Lode.inter xs ys) := hdone
      clear hdone
      go_wp2_with fail
      go_ret
      exact ⟨some ⟨BA, 0, none⟩, n, retS (congrArg List.length HD.out), by rw [← HD.out]; exact hrA.u32s, fun h => (by cases h), hbw⟩
    by_cases hlb : lb = 0
    · subst hlb
      have HD : Hid (outs = Lode.inter xs ys) := HAT.out.done (by rw [HLX.out, ← HI.out]; omega) (.inr (by rw [HLY.out, ← HJ.out]; rfl))
      go_wp2_with fail
      go_ret
      exact ⟨some ⟨BA, 0, none⟩, n, retS (congrArg List.length HD.out), by rw [← HD.out]; exact hrA.u32s, fun h => (by cases h), hbw⟩
    obtain ⟨la', rfl⟩ : ∃ k, la = k + 1 := ⟨la - 1, by omega⟩
    obtain ⟨lb', rfl⟩ : ∃ k, lb = k + 1 := ⟨lb - 1, by omega⟩
    rcases hpa with h0 | rfl
    · omega
    rcases hpb with h0 | rfl
    · omega
    have hin : i < n := by rw [← HI.out]; omega
    have hjm : j < m := by rw [← HJ.out]; omega
    obtain ⟨x, hxe⟩ : ∃ x, x = xs.getD i 0 := ⟨_, rfl⟩
    obtain ⟨y, hye⟩ : ∃ y, y = ys.getD j 0 := ⟨_, rfl⟩
    have cx : wr.cell? ⟨BA, i, none⟩ = some (.int .u32 x) := by rw [hxe]; exact hrA.cell (Nat.le_refl _) hin
    have cy : wr.cell? ⟨BB, j, none⟩ = some (.int .u32 y) := by rw [hye]; exact hrB.cell (Nat.zero_le _) hjm
    have HX : Hid (x = xs.getD i 0) := hxe
    have HY : Hid (y = ys.getD j 0) := hye
    clear hxe hye
    have q1 : (0 : Int) < (la' : Int) + 1 := by omega
    have q2 : (0 : Int) < (lb' : Int) + 1 := by omega
    have hd1 : decide ((0 : Int) < (la' : Int) + 1) = true := by simp
    have hd2 : decide ((0 : Int) < (lb' : Int) + 1) = true := by simp
    by_cases hxy : x < y
    · go_wp2_with fail
      go_quiet (fail)
      go_wp2_with fail
      go_roundw
      case rel =>
        refine ⟨i + 1, la', j, lb' + 1, outs, _, _, ?_, HJ, rfl, ?_, rfl, .inr rfl, rfl, HAT.out.less hy (by rw [HLX.out]; exact hin) (by rw [HLY.out]; exact hjm) (by rw [← HX.out, ← HY.out]; exact hxy), hrA.next.below (below_grow rfl rfl rfl rfl) hrA.lt, hrB.below (below_grow rfl rfl rfl rfl) hrB.lt, hbw.trans (below_grow rfl rfl rfl rfl)⟩
        · show i + 1 + la' = n
          rw [← HI.out]; omega
        · by_cases h0 : la' = 0
          · exact .inl h0
          · exact .inr (if_neg h0)
      case measure => simp [lenV]
    by_cases hyx : y < x
    · go_wp2_with fail
      go_quiet (fail)
      go_wp2_with fail
      go_quiet (fail)
      go_wp2_with fail
      go_roundw
      case rel =>
        refine ⟨i, la' + 1, j + 1, lb', outs, _, _, HI, ?_, rfl, .inr rfl, rfl, ?_, rfl, HAT.out.more hx (by rw [← HX.out, ← HY.out]; exact hyx), hrA.below (below_grow rfl rfl rfl rfl) hrA.lt, hrB.below (below_grow rfl rfl rfl rfl) hrB.lt, hbw.trans (below_grow rfl rfl rfl rfl)⟩
        · show j + 1 + lb' = m
          rw [← HJ.out]; omega
        · by_cases h0 : lb' = 0
          · exact .inl h0
          · exact .inr (if_neg h0)
      case measure => simp [lenV]
    · obtain rfl : x = y := by omega
      go_wp2_with fail
      go_quiet (fail)
      go_wp2_with fail
      go_quiet (fail)
      have hrA2 : TwoRow (wr.alloc (.cells #[.int .u32 x] 28)) BA n outs xs i := hrA.below ((Below.refl _ _).alloc (Nat.le_refl _) _) hrA.lt
      have hrB2 : TwoRow (wr.alloc (.cells #[.int .u32 x] 28)) BB m [] ys 0 := hrB.below ((Below.refl _ _).alloc (Nat.le_refl _) _) hrB.lt
      have hbw2 : Below base w (wr.alloc (.cells #[.int .u32 x] 28)) := hbw.alloc (Nat.le_trans hbase hbw.size) _
      have hv2 : (wr.alloc (.cells #[.int .u32 x] 28)).cell? ⟨wr.heap.size, 0, none⟩ = some (.int .u32 x) := by simp
      go_wp2_with (at_builtin; refine wpList_append_two _ rfl _ _ 22 rfl Try.underlying22 inf hinf hsz BA n outs xs i (by exact hrA2) hin rfl ⟨wr.heap.size, 0, none⟩ 1 rfl x (by exact hv2) ?_; intro w9 hrA9 hg9)
      have hgr : (wr.alloc (.cells #[.int .u32 x] 28)).grownBy w9 (some BA) := ⟨hg9.os, hg9.tape, hg9.output, hg9.size, hg9.block⟩
      have hrB9 : TwoRow w9 BB m [] ys 0 := by
        obtain ⟨cur, hb', r⟩ := hrB2
        exact ⟨cur, (hgr.block BB (Array.getElem?_eq_some_iff.1 hb').1 (fun e => hne (Option.some.inj e).symm)).trans hb', r⟩
      have hbw9 : Below base w w9 := hbw2.grown hgr (Nat.le_trans hbase hbw2.size) (fun k hk => by cases hk; exact hbA)
      have HO : Hid ((outs ++ [x]).length = outs.length + 1) := by simp [Hid]
      clear hg9 hgr hrA2 hrB2 hbw2 hv2 cx cy
      go_quiet (fail)
      go_wp2_with fail
      go_roundw
      case rel =>
        refine ⟨i + 1, la', j + 1, lb', outs ++ [x], _, _, ?_, ?_, rfl, ?_, rfl, ?_, by rw [HO.out], ?_, hrA9.below (below_grow rfl rfl rfl rfl) hrA9.lt, hrB9.below (below_grow rfl rfl rfl rfl) hrB9.lt, hbw9.trans (below_grow rfl rfl rfl rfl)⟩
        · show i + 1 + la' = n
          rw [← HI.out]; omega
        · show j + 1 + lb' = m
          rw [← HJ.out]; omega
        · by_cases h0 : la' = 0
          · exact .inl h0
          · exact .inr (if_neg h0)
        · by_cases h0 : lb' = 0
          · exact .inl h0
          · exact .inr (if_neg h0)
        · have := HAT.out.same hx (by rw [HLX.out]; exact hin) (by rw [HLY.out]; exact hjm) (by rw [← HX.out, ← HY.out])
          rw [← HX.out] at this
          exact this
      case measure => simp [lenV]; omega

/-- One of the two is empty. -/
theorem inter_none (pa : Option Addr) (n : Nat) (xs : List Int) (pb : Option Addr) (m : Nat) (ys : List Int) (base : Nat) (w : World) (hn : n ≤ 1048576) (h : n = 0 ∨ m = 0) (hlx : xs.length = n) (hly : ys.length = m) :
    Calls Try.prog 27 #[.slice pa n n, .slice pb m m] w fun e w' => InterPost w base xs ys e w' := by
  have HI : Hid (Lode.inter xs ys = []) := by
    rcases h with h0 | h0
    · obtain rfl : xs = [] := List.length_eq_zero_iff.1 (hlx.trans h0)
      rfl
    · obtain rfl : ys = [] := List.length_eq_zero_iff.1 (hly.trans h0)
      simp [Hid, Lode.inter]
  have hpost : ∀ (p : Option Addr) (c : Nat), InterPost w base xs ys (.returned (.slice p 0 c)) w := fun p c => by
    unfold InterPost
    rw [HI.out]
    exact ⟨p, c, rfl, ⟨rfl, .inl rfl⟩, fun _ => rfl, Below.refl _ _⟩
  clear hlx hly
  rcases h with h0 | h0
  · subst h0
    go_enter Try.func27, Try.ntmps27
    go_wp2
    refine wp_loop_rounds 1 ?_
    rw [rounds_succ]
    go_wp2
    go_ret
    exact hpost _ _
  · subst h0
    by_cases hnp : 0 < n
    · go_enter Try.func27, Try.ntmps27
      go_wp2
      refine wp_loop_rounds 1 ?_
      rw [rounds_succ]
      go_wp2
      go_ret
      exact hpost _ _
    · obtain rfl : n = 0 := by omega
      go_enter Try.func27, Try.ntmps27
      go_wp2
      refine wp_loop_rounds 1 ?_
      rw [rounds_succ]
      go_wp2
      go_ret
      exact hpost _ _

theorem inter_any (pa : Option Addr) (n : Nat) (xs : List Int) (pb : Option Addr) (m : Nat) (ys : List Int) (base : Nat) (w : World) (hn : n ≤ 1048576) (hbase : base ≤ w.heap.size)
    (hA : Cloned w base pa n xs) (hB : Cloned w base pb m ys) (hne : n = 0 ∨ m = 0 ∨ pa ≠ pb) (hx : Lode.Asc xs) (hy : Lode.Asc ys) :
    Calls Try.prog 27 #[.slice pa n n, .slice pb m m] w fun e w' => InterPost w base xs ys e w' := by
  by_cases h0 : n = 0 ∨ m = 0
  · exact inter_none pa n xs pb m ys base w hn h0 hA.1 hB.1
  · rcases hA.2 with h1 | ⟨BA, rfl, hbA, _, htA⟩
    · exact absurd (.inl h1) h0
    rcases hB.2 with h1 | ⟨BB, rfl, _, _, htB⟩
    · exact absurd (.inr h1) h0
    refine inter_main BA n xs BB m ys base w hn (by omega) hA.1 hB.1 (fun e => ?_) hbase hbA htA htB hx hy
    subst e
    rcases hne with h1 | h1 | h1
    · exact h0 (.inl h1)
    · exact h0 (.inr h1)
    · exact h1 rfl

/-- ZZIntersect hands on to intersect. -/
theorem zzInter_any (pa : Option Addr) (n : Nat) (xs : List Int) (pb : Option Addr) (m : Nat) (ys : List Int) (base : Nat) (w : World) (hn : n ≤ 1048576) (hbase : base ≤ w.heap.size)
    (hA : Cloned w base pa n xs) (hB : Cloned w base pb m ys) (hne : n = 0 ∨ m = 0 ∨ pa ≠ pb) (hx : Lode.Asc xs) (hy : Lode.Asc ys) :
    Calls Try.prog 11 #[.slice pa n n, .slice pb m m] w fun e w' => InterPost w base xs ys e w' := by
  go_enter Try.func11, Try.ntmps11
  go_wp2_with fail
  refine (inter_any pa n xs pb m ys base _ hn hbase hA hB hne hx hy).mono ?_
  rintro e w1 ⟨p, c, rfl, hr⟩
  go_wp2_with fail
  go_ret
  exact ⟨p, c, rfl, hr⟩

/-- Two clones, the second made behind the first, do not share a row. -/
theorem cloned_apart {w1 w2 : World} {base : Nat} {p q : Option Addr} {n m : Nat} {xs ys : List Int} (h1 : Cloned w1 base p n xs) (h2 : Cloned w2 w1.heap.size q m ys) : n = 0 ∨ m = 0 ∨ p ≠ q := by
  rcases h1.2 with h | ⟨B, rfl, _, hlt, _⟩
  · exact .inl h
  · rcases h2.2 with h | ⟨B2, rfl, hle, _, _⟩
    · exact .inr (.inl h)
    · refine .inr (.inr (fun e => ?_))
      have := congrArg Addr.block (Option.some.inj e)
      simp only at this
      omega
theorem Cloned.mono {w : World} {base base' : Nat} {p : Option Addr} {n : Nat} {xs : List Int} (h : Cloned w base p n xs) (hb : base' ≤ base) : Cloned w base' p n xs := by
  rcases h with ⟨h1, h2⟩
  refine ⟨h1, ?_⟩
  rcases h2 with h | ⟨B, e, hle, r⟩
  · exact .inl h
  · exact .inr ⟨B, e, Nat.le_trans hb hle, r⟩

end Go.Proofs.Qxb6619298a
