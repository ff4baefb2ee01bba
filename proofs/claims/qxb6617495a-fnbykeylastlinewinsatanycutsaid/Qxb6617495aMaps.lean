/-
  Maps that the call itself makes, as plain functions: map[string]string ('SMap') and map[string]bool in which only 'true' is stored ('BMap').
-/
import Derived.Test.Qxb6617495aLaws
import Derived.Maps.StringElems
namespace Go.Proofs.Qxb6617495a
open Go.RowKit
open Go.WideMaps (keyOf_string_mk)

theorem law9 : Maps.Keyed Try.prog 9 := Maps.string_keyed Try.underlying9
theorem zero9 (w : World) : (zeroValue 9).run Try.prog w = .ok (.string ByteArray.empty) w := by kernel_rfl
theorem zero4 (w : World) : (zeroValue 4).run Try.prog w = .ok (.bool false) w := by kernel_rfl

theorem bytes_ext {s t : ByteArray} (h : s.data.toList = t.data.toList) : s = t := by
  cases s with | mk a => cases t with | mk b => simp at h; subst h; rfl

theorem lit_ne {s t : ByteArray} (h : s ≠ t) : (Lit.string s.data.toList) ≠ (Lit.string t.data.toList) := fun e => h (bytes_ext (by simpa using e))

theorem isKey (s : ByteArray) : WideAt.IsKeyLit (Lit.string s.data.toList) := trivial

/-- Block b is a map[string]string that holds just F, N keys; n: a bound on its entries. -/
def SMap (w : World) (b : Nat) (F : ByteArray → Option ByteArray) (N n : Nat) : Prop :=
  ∃ D : DataW Unit, w.ownsMap Try.prog 9 (plainElem Try.prog 9) b n D ∧ (∀ k, Maps.has D (.string k.data.toList) = (F k).isSome) ∧ (∀ k t, F k = some t → ∀ z, D.atKey (.string k.data.toList) z = .lit (.string t.data.toList)) ∧ Maps.size D = N

/-- Block b is a map[string]bool in which just the keys of F stand, each at true. -/
def BMap (w : World) (b : Nat) (F : ByteArray → Bool) (n : Nat) : Prop :=
  ∃ D : DataW Unit, w.ownsMap Try.prog 9 (plainElem Try.prog 4) b n D ∧ (∀ k, Maps.has D (.string k.data.toList) = F k) ∧ ∀ k, F k = true → ∀ z, D.atKey (.string k.data.toList) z = .lit (.bool true)

theorem SMap.made (w : World) : SMap (w.alloc (.map #[] 0)) w.heap.size (fun _ => none) 0 0 :=
  ⟨.map [], World.ownsMap_made _ _ _ _, fun k => rfl, fun k t h => (by cases h), rfl⟩
theorem BMap.made (w : World) : BMap (w.alloc (.map #[] 0)) w.heap.size (fun _ => false) 0 :=
  ⟨.map [], World.ownsMap_made _ _ _ _, fun k => rfl, fun k h => by cases h⟩

theorem SMap.lt {w : World} {b N n : Nat} {F : ByteArray → Option ByteArray} (h : SMap w b F N n) : b < w.heap.size := by obtain ⟨D, h, _⟩ := h; exact h.lt
theorem BMap.lt {w : World} {b n : Nat} {F : ByteArray → Bool} (h : BMap w b F n) : b < w.heap.size := by obtain ⟨D, h, _⟩ := h; exact h.lt

theorem SMap.kept {w w' : World} {b N n : Nat} {F : ByteArray → Option ByteArray} {row : Option Nat} (h : SMap w b F N n) (hg : w.grownBy w' row) (hne : some b ≠ row) : SMap w' b F N n := by
  obtain ⟨D, h1, h2, h3, h4⟩ := h
  exact ⟨D, h1.kept hg hne, h2, h3, h4⟩
theorem BMap.kept {w w' : World} {b n : Nat} {F : ByteArray → Bool} {row : Option Nat} (h : BMap w b F n) (hg : w.grownBy w' row) (hne : some b ≠ row) : BMap w' b F n := by
  obtain ⟨D, h1, h2, h3⟩ := h
  exact ⟨D, h1.kept hg hne, h2, h3⟩
/-- What lies below B stays. -/
theorem grown_of_below {B : Nat} {w w' : World} (hb : Below B w w') {b : Nat} (hlt : b < B) : w'.heap[b]? = w.heap[b]? := hb.block b hlt
theorem SMap.keep {w w' : World} {b N n B : Nat} {F : ByteArray → Option ByteArray} (h : SMap w b F N n) (hb : Below B w w') (hlt : b < B) : SMap w' b F N n := by
  obtain ⟨D, ⟨es, clock, hh, r⟩, h2, h3, h4⟩ := h
  exact ⟨D, ⟨es, clock, (hb.block b hlt).trans hh, r⟩, h2, h3, h4⟩
theorem BMap.keep {w w' : World} {b n B : Nat} {F : ByteArray → Bool} (h : BMap w b F n) (hb : Below B w w') (hlt : b < B) : BMap w' b F n := by
  obtain ⟨D, ⟨es, clock, hh, r⟩, h2, h3⟩ := h
  exact ⟨D, ⟨es, clock, (hb.block b hlt).trans hh, r⟩, h2, h3⟩

/-- The map with one key more, or at another text. -/
def put1 (F : ByteArray → Option ByteArray) (k t : ByteArray) : ByteArray → Option ByteArray := fun y => if y = k then some t else F y
def num1 (b : Bool) (N : Nat) : Nat := if b then N else N + 1
def bput1 (F : ByteArray → Bool) (k : ByteArray) : ByteArray → Bool := fun y => if y = k then true else F y

section
variable {w : World} {ops : Array Oper} {rest : List Oper} {o : Oper} {a : Act} {Q : Exit → Act → World → Prop}

/-- 'm[k] = v' in a map[string]string. -/
theorem wpList_sput (hg : o.guard = none) (m x v : Operand) (hop : o.op = Op.mapUpdate 28 m x v) (b N n : Nat) (F : ByteArray → Option ByteArray) (k t : ByteArray)
    (hm : a.eval m = .map (some b)) (hx : a.eval x = .string k) (hv : a.eval v = .string t) (hown : SMap w b F N n) (hn : n < maxLen) (hk : k.size ≤ maxLen) (ht : t.size ≤ maxLen)
    (hK : ∀ w', SMap w' b (put1 F k t) (num1 (F k).isSome N) (n + 1) → w.grownBy w' (some b) → wpList Try.prog ops Q rest (a.put o.dst undef) w') :
    wpList Try.prog ops Q (o :: rest) a w := by
  obtain ⟨D, h1, h2, h3, h4⟩ := hown
  refine wpList_mapUpdate_own w hg m x v 28 hop 9 9 law9 Try.underlying28 _ b n D hm h1 hn (.string k) (.string t) (.string k.data.toList) hx hv (keyOf_string_mk Try.underlying9 hk) (.lit (.string t.data.toList)) [] (plainElem_string Try.underlying9 ht) ?_
  intro w' hown' hgr
  refine hK w' ⟨_, hown', fun y => ?_, fun y u hu z => ?_, ?_⟩ hgr
  · show _ = (if y = k then some t else F y).isSome
    by_cases e : y = k
    · subst e; rw [if_pos rfl, Maps.has_put_same h1.isMap (isKey _)]; rfl
    · rw [if_neg e, Maps.has_put_other (lit_ne e), h2]
  · have hu : (if y = k then some t else F y) = some u := hu
    by_cases e : y = k
    · subst e; rw [if_pos rfl] at hu; cases hu; exact Maps.atKey_put_same h1.isMap (isKey _) _ _
    · rw [if_neg e] at hu; rw [Maps.atKey_put_other (lit_ne e)]; exact h3 y u hu z
  · rw [Maps.size_put (h1.tidy law9), h2, h4]; rfl

/-- 'm[k] = true' in a map[string]bool. -/
theorem wpList_bput (hg : o.guard = none) (m x v : Operand) (hop : o.op = Op.mapUpdate 30 m x v) (b n : Nat) (F : ByteArray → Bool) (k : ByteArray)
    (hm : a.eval m = .map (some b)) (hx : a.eval x = .string k) (hv : a.eval v = .bool true) (hown : BMap w b F n) (hn : n < maxLen) (hk : k.size ≤ maxLen)
    (hK : ∀ w', BMap w' b (bput1 F k) (n + 1) → w.grownBy w' (some b) → wpList Try.prog ops Q rest (a.put o.dst undef) w') :
    wpList Try.prog ops Q (o :: rest) a w := by
  obtain ⟨D, h1, h2, h3⟩ := hown
  refine wpList_mapUpdate_own w hg m x v 30 hop 9 4 law9 Try.underlying30 _ b n D hm h1 hn (.string k) (.bool true) (.string k.data.toList) hx hv (keyOf_string_mk Try.underlying9 hk) (.lit (.bool true)) [] (plainElem_bool Try.underlying4 true) ?_
  intro w' hown' hgr
  refine hK w' ⟨_, hown', fun y => ?_, fun y hu z => ?_⟩ hgr
  · show _ = (if y = k then true else F y)
    by_cases e : y = k
    · subst e; rw [if_pos rfl, Maps.has_put_same h1.isMap (isKey _)]
    · rw [if_neg e, Maps.has_put_other (lit_ne e), h2]
  · have hu : (if y = k then true else F y) = true := hu
    by_cases e : y = k
    · subst e; exact Maps.atKey_put_same h1.isMap (isKey _) _ _
    · rw [if_neg e] at hu; rw [Maps.atKey_put_other (lit_ne e)]; exact h3 y hu z

/-- 'v, ok := m[k]' in a map[string]string, the key there. -/
theorem wpList_sget_ok (hg : o.guard = none) (m x : Operand) (hop : o.op = Op.lookup 28 m x true) (b N n : Nat) (F : ByteArray → Option ByteArray) (k t : ByteArray)
    (hm : a.eval m = .map (some b)) (hx : a.eval x = .string k) (hown : SMap w b F N n) (hk : k.size ≤ maxLen) (hF : F k = some t)
    (hK : wpList Try.prog ops Q rest (a.put o.dst (.tuple #[.string t, .bool true])) w) :
    wpList Try.prog ops Q (o :: rest) a w := by
  obtain ⟨D, h1, h2, h3, h4⟩ := hown
  refine wpList_lookup_own_ok w hg m x 28 hop 9 9 law9 Try.underlying28 _ (zero9 w) (.lit (.string [])) [] (plainElem_string Try.underlying9 (by decide)) b n D hm h1 (.string k) (.string k.data.toList) hx (keyOf_string_mk Try.underlying9 hk) ?_
  intro v ps hv
  obtain ⟨s, rfl, hs, _⟩ := plainElem_string_inv Try.underlying9 hv
  rw [h3 k t hF] at hs
  simp only [Prod.mk.injEq] at hs
  have e : s = t := bytes_ext (by have := hs.1; simpa using this.symm)
  rw [h2 k, hF, e]
  exact hK

/-- .. the key not there: the zero text, false. -/
theorem wpList_sget_no (hg : o.guard = none) (m x : Operand) (hop : o.op = Op.lookup 28 m x true) (b N n : Nat) (F : ByteArray → Option ByteArray) (k : ByteArray)
    (hm : a.eval m = .map (some b)) (hx : a.eval x = .string k) (hown : SMap w b F N n) (hk : k.size ≤ maxLen) (hF : F k = none)
    (hK : wpList Try.prog ops Q rest (a.put o.dst (.tuple #[.string ByteArray.empty, .bool false])) w) :
    wpList Try.prog ops Q (o :: rest) a w := by
  obtain ⟨D, h1, h2, h3, h4⟩ := hown
  refine wpList_lookup_own_ok w hg m x 28 hop 9 9 law9 Try.underlying28 _ (zero9 w) (.lit (.string [])) [] (plainElem_string Try.underlying9 (by decide)) b n D hm h1 (.string k) (.string k.data.toList) hx (keyOf_string_mk Try.underlying9 hk) ?_
  intro v ps hv
  obtain ⟨s, rfl, hs, _⟩ := plainElem_string_inv Try.underlying9 hv
  have hh : Maps.has D (.string k.data.toList) = false := by rw [h2 k, hF]; rfl
  rw [Maps.atKey_of_not_has hh] at hs
  simp only [Prod.mk.injEq] at hs
  have e : s = ByteArray.empty := bytes_ext (by have := hs.1; simpa using this.symm)
  rw [hh, e]
  exact hK

/-- 'm[k]' in a map[string]string, the key there. -/
theorem wpList_sget (hg : o.guard = none) (m x : Operand) (hop : o.op = Op.lookup 28 m x false) (b N n : Nat) (F : ByteArray → Option ByteArray) (k t : ByteArray)
    (hm : a.eval m = .map (some b)) (hx : a.eval x = .string k) (hown : SMap w b F N n) (hk : k.size ≤ maxLen) (hF : F k = some t)
    (hK : wpList Try.prog ops Q rest (a.put o.dst (.string t)) w) :
    wpList Try.prog ops Q (o :: rest) a w := by
  obtain ⟨D, h1, h2, h3, h4⟩ := hown
  refine wpList_plain hg fun K' hK' => ?_
  obtain ⟨v, ps, hrun, hv⟩ := h1.lookup law9 Try.underlying28 (zero9 w) (plainElem_string (H := Unit) Try.underlying9 (s := ByteArray.empty) (by decide)) (keyOf_string_mk Try.underlying9 hk)
  obtain ⟨s, rfl, hs, _⟩ := plainElem_string_inv Try.underlying9 hv
  rw [h3 k t hF] at hs
  simp only [Prod.mk.injEq] at hs
  have e : s = t := bytes_ext (by have := hs.1; simpa using this.symm)
  subst e
  unfold Oper.wp
  simp [execOp, hop, hm, hx, hrun, Result.andThen]
  exact hK' _ _ hK

/-- 'seen[k]' in a map[string]bool. -/
theorem wpList_bget (hg : o.guard = none) (m x : Operand) (hop : o.op = Op.lookup 30 m x false) (b n : Nat) (F : ByteArray → Bool) (k : ByteArray)
    (hm : a.eval m = .map (some b)) (hx : a.eval x = .string k) (hown : BMap w b F n) (hk : k.size ≤ maxLen)
    (hK : wpList Try.prog ops Q rest (a.put o.dst (.bool (F k))) w) :
    wpList Try.prog ops Q (o :: rest) a w := by
  obtain ⟨D, h1, h2, h3⟩ := hown
  refine wpList_plain hg fun K' hK' => ?_
  obtain ⟨v, ps, hrun, hv⟩ := h1.lookup law9 Try.underlying30 (zero4 w) (plainElem_bool (H := Unit) Try.underlying4 false) (keyOf_string_mk Try.underlying9 hk)
  have hvv : v = .bool (F k) := by
    cases hF : F k with
    | true =>
      rw [h3 k hF] at hv
      unfold plainElem at hv
      rw [Try.underlying4] at hv
      cases v <;> simp at hv
      rw [hv.1]
    | false =>
      have hh : Maps.has D (.string k.data.toList) = false := by rw [h2 k, hF]
      rw [Maps.atKey_of_not_has hh] at hv
      unfold plainElem at hv
      rw [Try.underlying4] at hv
      cases v <;> simp at hv
      rw [hv.1]
  subst hvv
  unfold Oper.wp
  simp [execOp, hop, hm, hx, hrun, Result.andThen]
  exact hK' _ _ hK

/-- 'len(m)'. -/
theorem wpList_slen (hg : o.guard = none) (m : Operand) (hop : o.op = Op.call { callee := Callee.builtin Builtin.len, args := #[m], argTypes := #[28] }) (b N n : Nat) (F : ByteArray → Option ByteArray)
    (hm : a.eval m = .map (some b)) (hown : SMap w b F N n) (hK : wpList Try.prog ops Q rest (a.put o.dst (.int .i64 N)) w) :
    wpList Try.prog ops Q (o :: rest) a w := by
  obtain ⟨D, h1, h2, h3, h4⟩ := hown
  refine wpList_plain hg fun K' hK' => ?_
  have hrun := h1.len Try.underlying28 o.type
  rw [h4] at hrun
  unfold Oper.wp
  simp [execOp, hop, resolve, invoke, builtin, hm, hrun, Result.andThen]
  exact hK' _ _ hK
end

end Go.Proofs.Qxb6617495a
