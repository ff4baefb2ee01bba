/-
  Steps and sources laid out in cells. Plain.
-/
import Derived.Test.Qxb6617269aRec
namespace Go.Proofs.Qxb6617269a
open Go.RowKit
set_option linter.unusedVariables false

def flatS (S : List (Int × Int)) : List Value := S.flatMap fun p => [.int .i64 p.1, .int .i64 p.2]
def srcCells (s : Bool × Int) : List Value := [.bool s.1, .int .i64 0, .slice none 0 0, .int .i64 s.2, .int .i64 0, .slice none 0 0]
def flatR (rs : List (Bool × Int)) : List Value := rs.flatMap srcCells

theorem flatR_cons (s : Bool × Int) (rs : List (Bool × Int)) : flatR (s :: rs) = srcCells s ++ flatR rs := by simp [flatR]
theorem flatS_cons (p : Int × Int) (S : List (Int × Int)) : flatS (p :: S) = [.int .i64 p.1, .int .i64 p.2] ++ flatS S := by simp [flatS]
theorem flatS_append (S T : List (Int × Int)) : flatS (S ++ T) = flatS S ++ flatS T := by simp [flatS]
theorem flatS_len : ∀ S : List (Int × Int), (flatS S).length = S.length * 2
  | [] => rfl
  | p :: S => by rw [flatS_cons, List.length_append, flatS_len S]; simp; omega

theorem flatR_at : ∀ {rs : List (Bool × Int)} {k : Nat} {s : Bool × Int}, rs[k]? = some s → (flatR rs)[k * 6]? = some (.bool s.1) ∧ (flatR rs)[k * 6 + 3]? = some (.int .i64 s.2)
  | [], k, s, h => by simp at h
  | a :: rs, 0, s, h => by
    simp at h
    subst h
    rw [flatR_cons]
    exact ⟨rfl, rfl⟩
  | a :: rs, k + 1, s, h => by
    simp at h
    obtain ⟨h1, h2⟩ := flatR_at h
    rw [flatR_cons]
    have hl : (srcCells a).length = 6 := rfl
    constructor
    · rw [List.getElem?_append_right (by rw [hl]; omega), hl, show (k + 1) * 6 - 6 = k * 6 by omega]; exact h1
    · rw [List.getElem?_append_right (by rw [hl]; omega), hl, show (k + 1) * 6 + 3 - 6 = k * 6 + 3 by omega]; exact h2

theorem flatR_set : ∀ {rs : List (Bool × Int)} {k : Nat} {s : Bool × Int} (g : Int), rs[k]? = some s → (flatR rs).set (k * 6 + 3) (.int .i64 g) = flatR (rs.set k (s.1, g))
  | [], k, s, g, h => by simp at h
  | a :: rs, 0, s, g, h => by
    simp at h
    subst h
    simp only [List.set_cons_zero, flatR_cons, srcCells]
    rfl
  | a :: rs, k + 1, s, g, h => by
    simp at h
    have hl : (srcCells a).length = 6 := rfl
    rw [flatR_cons, List.set_cons_succ, flatR_cons, ← flatR_set g h, List.set_append_right _ _ (by rw [hl]; omega), hl, show (k + 1) * 6 + 3 - 6 = k * 6 + 3 by omega]

theorem flatS_at : ∀ {S : List (Int × Int)} {k : Nat} {p : Int × Int}, S[k]? = some p → (flatS S)[k * 2]? = some (.int .i64 p.1) ∧ (flatS S)[k * 2 + 1]? = some (.int .i64 p.2)
  | [], k, s, h => by simp at h
  | a :: S, 0, s, h => by
    simp at h
    subst h
    rw [flatS_cons]
    exact ⟨rfl, rfl⟩
  | a :: S, k + 1, s, h => by
    simp at h
    obtain ⟨h1, h2⟩ := flatS_at h
    rw [flatS_cons]
    constructor
    · rw [List.getElem?_append_right (by simp; omega)]; simpa [show (k + 1) * 2 - 2 = k * 2 by omega] using h1
    · rw [List.getElem?_append_right (by simp; omega)]; simpa [show (k + 1) * 2 + 1 - 2 = k * 2 + 1 by omega] using h2

/-- A row that the call owns reads its steps. -/
theorem SRow.of_own {w : World} {base : Nat} {x : Option Addr} {n c : Nat} {S : List (Int × Int)} (h : w.ownsRow base 70 2 (.slice x n c) n (flatS S)) : SRow w x S := by
  intro j p hp
  have hj := (List.getElem?_eq_some_iff.1 hp).1
  obtain ⟨e0, e1⟩ := flatS_at hp
  rcases h.2 with ⟨e, h0⟩ | ⟨g, cap, cur, e, _⟩
  · have := h.1
    rw [flatS_len] at this
    omega
  · simp only [Value.slice.injEq] at e
    obtain ⟨rfl, _, rfl⟩ := e
    refine ⟨g, 0, rfl, ?_, ?_⟩
    · have := h.cells rfl _ _ e0
      rwa [Go.WideShapes.add_plain] at this
    · have := h.cells rfl _ _ e1
      rwa [Go.WideShapes.add_plain] at this

end Go.Proofs.Qxb6617269a
