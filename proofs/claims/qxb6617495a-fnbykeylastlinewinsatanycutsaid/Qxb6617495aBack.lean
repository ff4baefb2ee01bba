/-
  The walk from the end: the first line met with a key is the last line of the file with that key. Plain.
-/
import Derived.Test.Qxb6617495aLines
namespace Go.Proofs.Qxb6617495a
open Go.RowKit

def bytes (k : ByteArray) : List UInt8 := k.data.toList

/-- The keys met among the lines from j on. -/
def seenF (L : List Ln) (j : Nat) : ByteArray → Bool := fun y => decide (bytes y ∈ keysOf (L.drop j))

def Back (L : List Ln) (j : Nat) (ks ts : List ByteArray) : Prop :=
  ks.length = ts.length ∧ (ks.map bytes).Nodup ∧ (∀ y, y ∈ ks.map bytes ↔ y ∈ keysOf (L.drop j)) ∧ ∀ (i : Nat) (k t : ByteArray), ks[i]? = some k → ts[i]? = some t → mapB L k = some t

theorem Back.start (L : List Ln) : Back L L.length [] [] := ⟨rfl, by simp, fun y => by rw [List.drop_length]; simp [keysOf], fun i k t h => by simp at h⟩

theorem mem_cons_keys {L : List Ln} {j : Nat} {l : Ln} (h : L[j]? = some l) (y : List UInt8) : y ∈ keysOf (L.drop j) ↔ y = l.key ∨ y ∈ keysOf (L.drop (j + 1)) := by
  rw [drop_cons h]
  simp only [mem_keysOf, List.mem_cons]
  constructor
  · rintro ⟨x, rfl | hx, e⟩
    · exact .inl e.symm
    · exact .inr ⟨x, hx, e⟩
  · rintro (e | ⟨x, hx, e⟩)
    · exact ⟨l, .inl rfl, e.symm⟩
    · exact ⟨x, .inr hx, e⟩

theorem Back.old {L : List Ln} {j : Nat} {ks ts : List ByteArray} {l : Ln} (h : Back L (j + 1) ks ts) (hl : L[j]? = some l) (hs : seenF L (j + 1) l.k = true) : Back L j ks ts ∧ seenF L (j + 1) = seenF L j := by
  have hs' : l.key ∈ keysOf (L.drop (j + 1)) := of_decide_eq_true hs
  have hm : ∀ y, y ∈ keysOf (L.drop j) ↔ y ∈ keysOf (L.drop (j + 1)) := fun y => by
    rw [mem_cons_keys hl]
    exact ⟨fun h => h.elim (fun e => by rw [e]; exact hs') id, .inr⟩
  refine ⟨⟨h.1, h.2.1, fun y => by rw [h.2.2.1, hm], h.2.2.2⟩, ?_⟩
  funext y
  simp only [seenF, hm]

theorem mapB_first {L : List Ln} {j : Nat} {l : Ln} (hl : L[j]? = some l) (hs : ¬ l.key ∈ keysOf (L.drop (j + 1))) : mapB L l.k = some l.t := by
  have e : L = L.take j ++ ([l] ++ L.drop (j + 1)) := by
    have := drop_cons hl
    rw [List.singleton_append, ← this, List.take_append_drop]
  unfold mapB
  rw [e, mapOf_append, mapOf_append]
  have h0 : mapOf (L.drop (j + 1)) l.key = none := by
    cases hm : mapOf (L.drop (j + 1)) l.key with
    | none => rfl
    | some t => exact absurd ((isSome_mapOf _ _).1 (by rw [hm]; rfl)) hs
  have h1 : mapOf [l] l.key = some l.t := by simp [mapOf]
  show (match (match mapOf (L.drop (j + 1)) l.key with | some t => some t | none => mapOf [l] l.key) with | some t => some t | none => mapOf (L.take j) l.key) = some l.t
  rw [h0, h1]

theorem Back.new {L : List Ln} {j : Nat} {ks ts : List ByteArray} {l : Ln} (h : Back L (j + 1) ks ts) (hl : L[j]? = some l) (hs : seenF L (j + 1) l.k = false) : Back L j (ks ++ [l.k]) (ts ++ [l.t]) ∧ bput1 (seenF L (j + 1)) l.k = seenF L j := by
  have hs' : ¬ l.key ∈ keysOf (L.drop (j + 1)) := of_decide_eq_false hs
  obtain ⟨h1, h2, h3, h4⟩ := h
  refine ⟨⟨by simp [h1], ?_, ?_, ?_⟩, ?_⟩
  · rw [List.map_append, List.nodup_append]
    refine ⟨h2, by simp, ?_⟩
    intro x hx y hy e
    simp at hy
    subst hy; subst e
    exact hs' ((h3 _).1 hx)
  · intro y
    rw [List.map_append, List.mem_append, h3, mem_cons_keys hl]
    simp only [List.map_cons, List.map_nil, List.mem_singleton]
    exact ⟨fun h => h.elim .inr .inl, fun h => h.elim .inr .inl⟩
  · intro i k t hk ht
    by_cases hi : i < ks.length
    · rw [List.getElem?_append_left hi] at hk
      rw [List.getElem?_append_left (by omega)] at ht
      exact h4 i k t hk ht
    · rw [List.getElem?_append_right (by omega)] at hk
      rw [List.getElem?_append_right (by omega), ← h1] at ht
      have hi0 : i - ks.length = 0 := by
        have := (List.getElem?_eq_some_iff.1 hk).1
        simp at this; exact this
      rw [hi0] at hk ht
      simp at hk ht
      subst hk; subst ht
      exact mapB_first hl hs'
  · funext y
    unfold bput1
    by_cases e : y = l.k
    · subst e
      rw [if_pos rfl]
      have : bytes l.k ∈ keysOf (L.drop j) := (mem_cons_keys hl _).2 (.inl rfl)
      simp [seenF, this]
    · rw [if_neg e]
      simp only [seenF]
      congr 1
      rw [mem_cons_keys hl]
      exact propext ⟨.inr, fun h => h.elim (fun e' => absurd (bytes_ext e') e) id⟩

theorem Back.whole {L : List Ln} {ks ts : List ByteArray} (h : Back L 0 ks ts) : (keysOf L).length = ks.length := by
  have := nodup_eq (A := keysOf L) (B := ks.map bytes) (nodup_keysOf L) h.2.1 (fun y => by rw [h.2.2.1, List.drop_zero])
  simpa using this

end Go.Proofs.Qxb6617495a
