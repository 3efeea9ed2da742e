/-
  Seat b6619298a: shapes and small laws that the walks share.
-/
import Derived.Test.Qxb6619298aRows
import Derived.Test.Qxb6619298aPlain
import Derived.WalkKit
import Derived.Maps.OwnSet
import Derived.SliceStrings
import Derived.OpenShut
import Derived.Below
import Derived.Carry
import Derived.WalkLawsBesides
namespace Go.Proofs.Qxb6619298a
open Go.RowKit Go.Maps Go.WideMaps

/-- A slice of strings in w: 'ss' are its elements; where there is one, the slice leads to a row of old cells that hold them. -/
def Strs (w : World) (a : Option Addr) (n : Nat) (ss : List ByteArray) : Prop :=
  ss.length = n ∧ (∀ s ∈ ss, s.size ≤ maxLen) ∧
  (n = 0 ∨ ∃ b off, a = some ⟨b, off, none⟩ ∧ b < w.heap.size ∧ ∀ j, j < n → w.cell? ⟨b, off + j, none⟩ = some (.string (ss.getD j ByteArray.empty)))

theorem Strs.below {w w' : World} {a : Option Addr} {n : Nat} {ss : List ByteArray} (h : Strs w a n ss) (hb : Below w.heap.size w w') : Strs w' a n ss := by
  obtain ⟨h1, h2, h3⟩ := h
  refine ⟨h1, h2, ?_⟩
  rcases h3 with h3 | ⟨b, off, e, hlt, hc⟩
  · exact .inl h3
  · exact .inr ⟨b, off, e, Nat.lt_of_lt_of_le hlt hb.size, fun j hj => (hb.cell (p := ⟨b, off + j, none⟩) hlt).trans (hc j hj)⟩

/-- The keys: each string as its bytes. -/
def keysOf (ss : List ByteArray) : List (List UInt8) := ss.map fun s => s.data.toList

theorem keysOf_take_succ (ss : List ByteArray) (k : Nat) (hk : k < ss.length) : (keysOf ss).take (k + 1) = (keysOf ss).take k ++ [(ss.getD k ByteArray.empty).data.toList] := by
  unfold keysOf
  rw [List.take_add_one]
  simp [List.getD, List.getElem?_eq_getElem hk]

theorem size_getD {ss : List ByteArray} (h : ∀ s ∈ ss, s.size ≤ maxLen) (k : Nat) : (ss.getD k ByteArray.empty).size ≤ maxLen := by
  by_cases hk : k < ss.length
  · rw [List.getD, List.getElem?_eq_getElem hk]
    exact h _ (List.getElem_mem hk)
  · rw [List.getD, List.getElem?_eq_none (by omega)]
    exact Nat.zero_le _

/-- A key as a closed datum. -/
def kl (k : List UInt8) : Lit := .string k
theorem kl_inj {a b : List UInt8} (h : kl a = kl b) : a = b := by unfold kl at h; cases h; rfl

/-- The set by map[string]bool that holds just the keys K. -/
def setK (K : List (List UInt8)) : DataW Unit := setOf (.lit (.bool true)) (K.map kl)
theorem setK_nil : setK [] = .map [] := by simp [setK, setOf]
theorem setK_snoc (K : List (List UInt8)) (x : List UInt8) : setK (K ++ [x]) = (setK K).put (kl x) (.lit (.bool true)) := by
  unfold setK
  rw [List.map_append, List.map_cons, List.map_nil, setOf_snoc]

theorem isKey_kl (x : List UInt8) : WideAt.IsKeyLit (kl x) := by simp [kl, WideAt.IsKeyLit]

theorem has_setK (K : List (List UInt8)) (x : List UInt8) : Maps.has (setK K) (kl x) = Lode.has K x := by
  unfold setK
  rw [has_setOf _ _ _ (fun y hy => by obtain ⟨z, _, rfl⟩ := List.mem_map.1 hy; exact isKey_kl z), Bool.eq_iff_iff, List.any_eq_true, Lode.has_iff]
  constructor
  · rintro ⟨y, hy, hs⟩
    obtain ⟨z, hz, rfl⟩ := List.mem_map.1 hy
    rw [← kl_inj (WideAt.sameKey_eq hs)]
    exact hz
  · intro hx
    exact ⟨kl x, List.mem_map.2 ⟨x, hx, rfl⟩, WideAt.sameKey_self (isKey_kl x)⟩

theorem tidy_setK (K : List (List UInt8)) : Tidy (setK K) :=
  tidy_setOf _ _ (fun y hy => by obtain ⟨z, _, rfl⟩ := List.mem_map.1 hy; exact isKey_kl z)

theorem size_snoc (K : List (List UInt8)) (x : List UInt8) : Maps.size (setK (K ++ [x])) = Maps.size (setK K) + if Lode.has K x = true then 0 else 1 := by
  rw [setK_snoc, size_put (tidy_setK K), has_setK]
  split <;> rfl

theorem size_take (K : List (List UInt8)) : ∀ n, n ≤ K.length → Maps.size (setK (K.take n)) = Lode.dist (K.take n)
  | 0, _ => by simp [setK_nil, Lode.dist_nil, Maps.size]
  | n + 1, h => by
    rw [List.take_succ_eq_append_getElem (by omega), size_snoc, Lode.dist_snoc, size_take K n (by omega)]
theorem size_setK (K : List (List UInt8)) : Maps.size (setK K) = Lode.dist K := by
  have := size_take K K.length (Nat.le_refl _)
  rwa [List.take_length] at this

theorem atKey_take (K : List (List UInt8)) (x : List UInt8) : ∀ n, n ≤ K.length → (setK (K.take n)).atKey (kl x) (.lit (.bool false)) = .lit (.bool (Lode.has (K.take n) x))
  | 0, _ => by rw [List.take_zero, setK_nil, Lode.has_nil]; rfl
  | n + 1, h => by
    have ih := atKey_take K x n (by omega)
    rw [List.take_succ_eq_append_getElem (by omega), setK_snoc, Lode.has_snoc]
    by_cases e : x = K[n]
    · rw [← e, atKey_put_same (tidy_setK _).isMap (isKey_kl x)]
      simp
    · rw [atKey_put_other (fun h => e (kl_inj h)), ih]
      simp [e]
theorem atKey_setK (K : List (List UInt8)) (x : List UInt8) : (setK K).atKey (kl x) (.lit (.bool false)) = .lit (.bool (Lode.has K x)) := by
  have := atKey_take K x K.length (Nat.le_refl _)
  rwa [List.take_length] at this

/-- 'make(map[K]V, n)': a new, empty map at the heap's end. -/
theorem run_makeMap_hint {P : Program} {t k e : TypeId} (ht : P.underlying t = some (.map k e)) (q : IntKind) (n : Int) (w : World) :
    (Instr.makeMap t (some (.int q n))).run P w = .ok (.map (some w.heap.size)) (w.alloc (.map #[] 0)) := by
  simp [Instr.makeMap, run_underlying ht, asInt, asIntOf, Result.andThen]

theorem plainElem_bool_inv {H : Type} {P : Program} {e : TypeId} (he : P.underlying e = some .bool) {v : Value} {z : DataW H × List MemPlace} (h : plainElem P e v = some z) : ∃ b, v = .bool b ∧ z = (.lit (.bool b), []) := by
  unfold plainElem at h
  rw [he] at h
  cases v <;> simp at h
  exact ⟨_, rfl, h.symm⟩

/-- 'm[k]' (without 'ok') in a map[K]bool of the call's own, at the operation: c is what the datum says. -/
theorem wpList_lookup_own_bool {H : Type} {P : Program} (w : World) {ops : Array Oper} {rest : List Oper} {o : Oper} {a : Act} {Q : Exit → Act → World → Prop}
    (hg : o.guard = none) (m x : Operand) (t : TypeId) (hop : o.op = Op.lookup t m x false)
    (k e : TypeId) (K : Keyed P k) (ht : P.underlying t = some (.map k e)) (he : P.underlying e = some .bool) (hz : (zeroValue e).run P w = .ok (.bool false) w) (b n : Nat) (D : DataW H)
    (hm : a.eval m = .map (some b)) (hown : w.ownsMap P k (plainElem P e) b n D) (key : Value) (kl : Lit) (hx : a.eval x = key) (hkey : keyOf P k key = some kl)
    (c : Bool) (hat : D.atKey kl (.lit (.bool false)) = .lit (.bool c))
    (hK : wpList P ops Q rest (a.put o.dst (.bool c)) w) :
    wpList P ops Q (o :: rest) a w := by
  refine wpList_plain hg fun K' hK' => ?_
  obtain ⟨v, ps, hrun, hv⟩ := hown.lookup K ht hz (plainElem_bool he false) hkey
  obtain ⟨c', rfl, hc⟩ := plainElem_bool_inv he hv
  simp only [Prod.mk.injEq] at hc
  have e1 := hc.1
  rw [hat] at e1
  cases e1
  unfold Oper.wp
  simp [execOp, hop, hm, hx, hrun, Result.andThen]
  exact hK' _ _ hK

theorem law9 : Keyed Try.prog 9 := string_keyed Try.underlying9
theorem zero4 (w : World) : (zeroValue 4).run Try.prog w = .ok (.bool false) w := by kernel_rfl

end Go.Proofs.Qxb6619298a
