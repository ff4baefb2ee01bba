/-
  The order 'before' on lists of counts: a strict total order that holds the pointwise order and does not see a common growth. Nothing of the program here.
-/
import Derived.Test.Qxb6617269aPlain
namespace Go.Proofs.Qxb6617269a.Plain

theorem lex_self (xs : List Int) : lex xs xs = false := by
  induction xs with
  | nil => rfl
  | cons x xs ih => rw [lex, if_pos rfl, ih]

theorem before_self (xs : List Int) : before xs xs = false := by rw [before, if_pos rfl, lex_self]

theorem lex_other : ∀ {xs ys : List Int}, xs.length = ys.length → xs ≠ ys → lex xs ys = !lex ys xs
  | [], [], _, h => absurd rfl h
  | [], _ :: _, h, _ => by simp at h
  | _ :: _, [], h, _ => by simp at h
  | x :: xs, y :: ys, hl, h => by
    simp only [lex]
    by_cases e : x = y
    · subst e
      rw [if_pos rfl, if_pos rfl]
      exact lex_other (by simpa using hl) (fun e => h (by rw [e]))
    · rw [if_neg e, if_neg (fun e' => e e'.symm)]
      by_cases hlt : x < y
      · have : ¬ y < x := by omega
        simp [hlt, this]
      · have : y < x := by omega
        simp [hlt, this]

theorem before_other {xs ys : List Int} (hl : xs.length = ys.length) (h : xs ≠ ys) : before xs ys = !before ys xs := by
  unfold before
  by_cases e : sum xs = sum ys
  · rw [if_pos e, if_pos e.symm]; exact lex_other hl h
  · rw [if_neg e, if_neg (fun e' => e e'.symm)]
    by_cases hlt : sum xs < sum ys
    · have : ¬ sum ys < sum xs := by omega
      simp [hlt, this]
    · have : sum ys < sum xs := by omega
      simp [hlt, this]

/-- Pointwise at most. -/
def below : List Int → List Int → Prop
  | x :: xs, y :: ys => x ≤ y ∧ below xs ys
  | _, _ => True

theorem below_sum : ∀ {xs ys : List Int}, xs.length = ys.length → below xs ys → sum xs ≤ sum ys ∧ (sum xs = sum ys → xs = ys)
  | [], [], _, _ => by simp [sum]
  | [], _ :: _, h, _ => by simp at h
  | _ :: _, [], h, _ => by simp at h
  | x :: xs, y :: ys, hl, h => by
    simp only [below] at h
    have := below_sum (by simpa using hl) h.2
    simp only [sum]
    refine ⟨by omega, fun e => ?_⟩
    have e1 : x = y := by omega
    have e2 := this.2 (by omega)
    rw [e1, e2]

theorem below_before {xs ys : List Int} (hl : xs.length = ys.length) (hb : below xs ys) (h : xs ≠ ys) : before xs ys = true := by
  have := below_sum hl hb
  have hne : sum xs ≠ sum ys := fun e => h (this.2 e)
  rw [before, if_neg hne]
  simp; omega

/-- A common growth. -/
def add : List Int → List Int → List Int
  | x :: xs, e :: es => (x + e) :: add xs es
  | _, _ => []

theorem add_length : ∀ {xs es : List Int}, xs.length = es.length → (add xs es).length = xs.length
  | [], [], _ => rfl
  | [], _ :: _, h => by simp at h
  | _ :: _, [], h => by simp at h
  | x :: xs, e :: es, h => by simp only [add, List.length_cons]; rw [add_length (by simpa using h)]

theorem add_sum : ∀ {xs es : List Int}, xs.length = es.length → sum (add xs es) = sum xs + sum es
  | [], [], _ => rfl
  | [], _ :: _, h => by simp at h
  | _ :: _, [], h => by simp at h
  | x :: xs, e :: es, h => by simp only [add, sum]; rw [add_sum (by simpa using h)]; omega

theorem add_lex : ∀ {xs ys es : List Int}, xs.length = es.length → ys.length = es.length → lex (add xs es) (add ys es) = lex xs ys
  | [], [], [], _, _ => rfl
  | _ :: _, _, [], h, _ => by simp at h
  | _, _ :: _, [], _, h => by simp at h
  | [], _, _ :: _, h, _ => by simp at h
  | _ :: _, [], _ :: _, _, h => by simp at h
  | x :: xs, y :: ys, e :: es, h1, h2 => by
    simp only [add, lex]
    rw [add_lex (by simpa using h1) (by simpa using h2)]
    by_cases h : x = y
    · rw [if_pos (by omega), if_pos h]
    · rw [if_neg (by omega), if_neg h]
      congr 1
      exact propext ⟨fun _ => by omega, fun _ => by omega⟩

theorem add_before {xs ys es : List Int} (h1 : xs.length = es.length) (h2 : ys.length = es.length) : before (add xs es) (add ys es) = before xs ys := by
  unfold before
  rw [add_sum h1, add_sum h2, add_lex h1 h2]
  by_cases h : sum xs = sum ys
  · rw [if_pos (by omega), if_pos h]
  · rw [if_neg (by omega), if_neg h]
    congr 1
    exact propext ⟨fun _ => by omega, fun _ => by omega⟩

theorem add_getD : ∀ {xs es : List Int} {j : Nat}, j < xs.length → j < es.length → (add xs es).getD j 0 = xs.getD j 0 + es.getD j 0
  | [], _, _, h, _ => by simp at h
  | _ :: _, [], _, _, h => by simp at h
  | _ :: _, _ :: _, 0, _, _ => rfl
  | x :: xs, e :: es, j + 1, h1, h2 => by
    have := add_getD (xs := xs) (es := es) (j := j) (by simpa using h1) (by simpa using h2)
    simpa [add] using this

theorem ext_getD {as bs : List Int} (hl : as.length = bs.length) (h : ∀ j, j < as.length → as.getD j 0 = bs.getD j 0) : as = bs := by
  apply List.ext_getElem hl
  intro j h1 h2
  have := h j h1
  simpa [List.getD, h1, h2] using this

theorem below_of_getD : ∀ {xs ys : List Int}, xs.length = ys.length → (∀ j, j < xs.length → xs.getD j 0 ≤ ys.getD j 0) → below xs ys
  | [], [], _, _ => trivial
  | [], _ :: _, h, _ => by simp at h
  | _ :: _, [], h, _ => by simp at h
  | x :: xs, y :: ys, hl, h => ⟨by simpa using h 0 (by simp), below_of_getD (by simpa using hl) (fun j hj => by simpa using h (j + 1) (by simpa using hj))⟩

end Go.Proofs.Qxb6617269a.Plain
