/-
  The file cut in two: the tail's map wins, the head's map serves where the tail lacks the key. Plain.
-/
import Derived.Test.Qxb6617495aBack
namespace Go.Proofs.Qxb6617495a
open Go.RowKit

def seenR (R : List Ln) : ByteArray → Bool := fun y => decide (bytes y ∈ keysOf R)

theorem seenR_nil : seenR [] = fun _ => false := by
  funext y
  simp [seenR, keysOf]

theorem mapB_mem {A : List Ln} {f : Ln} (hf : f ∈ A) : ∃ v, mapB A f.k = some v :=
  Option.isSome_iff_exists.1 ((isSome_mapOf A f.key).2 ((mem_keysOf A f.key).2 ⟨f, hf, rfl⟩))

theorem tail_is {A B : List Ln} {f : Ln} {v : ByteArray} (h : mapB B f.k = some v) : mapB (A ++ B) f.k = some v := by
  have h' : mapOf B f.key = some v := h
  show mapOf (A ++ B) f.key = some v
  rw [mapOf_append, h']

theorem head_is {A B : List Ln} {f : Ln} {v : ByteArray} (h : mapB A f.k = some v) (hs : seenR B f.k = false) : mapB (A ++ B) f.k = some v := by
  have h' : mapOf A f.key = some v := h
  have hs' : ¬ f.key ∈ keysOf B := of_decide_eq_false hs
  show mapOf (A ++ B) f.key = some v
  have h0 : mapOf B f.key = none := by
    cases hm : mapOf B f.key with
    | none => rfl
    | some t => exact absurd ((isSome_mapOf _ _).1 (by rw [hm]; rfl)) hs'
  rw [mapOf_append, h0, h']

theorem seenR_old {A R : List Ln} {f : Ln} (h : seenR R f.k = true) : seenR R = seenR (R ++ [f]) ∧ common A R = common A (R ++ [f]) := by
  have h' : f.key ∈ keysOf R := of_decide_eq_true h
  have e : keysOf (R ++ [f]) = keysOf R := by rw [keysOf_snoc, if_pos h']
  exact ⟨by unfold seenR; rw [e], by unfold common; rw [e]⟩

theorem seenR_new {R : List Ln} {f : Ln} (h : seenR R f.k = false) : bput1 (seenR R) f.k = seenR (R ++ [f]) := by
  have h' : ¬ f.key ∈ keysOf R := of_decide_eq_false h
  have e : keysOf (R ++ [f]) = keysOf R ++ [f.key] := by rw [keysOf_snoc, if_neg h']
  funext y
  unfold bput1 seenR
  rw [e]
  by_cases ey : y = f.k
  · subst ey
    rw [if_pos rfl]
    exact (decide_eq_true (List.mem_append_right _ (List.mem_singleton.2 rfl))).symm
  · rw [if_neg ey]
    have : (bytes y ∈ keysOf R) = (bytes y ∈ keysOf R ++ [f.key]) := propext ⟨fun h => List.mem_append_left _ h, fun h => (List.mem_append.1 h).elim id fun e' => absurd (bytes_ext (List.mem_singleton.1 e')) ey⟩
    simp only [this]

theorem common_no {A R : List Ln} {f : Ln} (h : seenR R f.k = false) (hm : mapB A f.k = none) : common A R = common A (R ++ [f]) := by
  have h' : ¬ f.key ∈ keysOf R := of_decide_eq_false h
  have hm' : mapOf A f.key = none := hm
  have hn : ¬ f.key ∈ keysOf A := fun hk => by
    have := (isSome_mapOf A f.key).2 hk
    rw [hm'] at this
    cases this
  unfold common
  rw [keysOf_snoc, if_neg h', List.filter_append, List.length_append]
  simp [hn]

theorem common_yes {A R : List Ln} {f : Ln} {t : ByteArray} (h : seenR R f.k = false) (hm : mapB A f.k = some t) : common A R + 1 = common A (R ++ [f]) := by
  have h' : ¬ f.key ∈ keysOf R := of_decide_eq_false h
  have hm' : mapOf A f.key = some t := hm
  have hn : f.key ∈ keysOf A := (isSome_mapOf A f.key).1 (by rw [hm']; rfl)
  unfold common
  rw [keysOf_snoc, if_neg h', List.filter_append, List.length_append]
  simp [hn]

end Go.Proofs.Qxb6617495a
