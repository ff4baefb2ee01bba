/-
  Plain functions and laws on lists of integers: nothing of the program here.
-/
namespace Go.Proofs.Qxb6617269a.Plain

/-- The greatest int. Kept behind a plain name. -/
def top : Int := 9223372036854775807

/-- What zzCountSum adds up: none where a count is negative or a running sum does not fit. -/
def csum (s : Int) : List Int → Option Int
  | [] => some s
  | x :: xs => if x < 0 ∨ top - x < s then none else csum (s + x) xs

/-- The bare sum. -/
def sum : List Int → Int
  | [] => 0
  | x :: xs => x + sum xs

theorem csum_some {s t : Int} {xs : List Int} (h : csum s xs = some t) : t = s + sum xs ∧ (∀ x ∈ xs, 0 ≤ x) ∧ (s ≤ top → t ≤ top) := by
  induction xs generalizing s with
  | nil => simp [csum] at h; subst h; simp [sum]
  | cons x xs ih =>
    simp only [csum] at h
    split at h
    · cases h
    · rename_i hc
      have := ih h
      refine ⟨by simp only [sum]; omega, ?_, fun hs => this.2.2 (by omega)⟩
      intro y hy
      rcases List.mem_cons.1 hy with rfl | hy
      · omega
      · exact this.2.1 y hy

theorem drop_at {α : Type} (xs : List α) (d : α) {k : Nat} (h : k < xs.length) : xs.drop k = xs.getD k d :: xs.drop (k + 1) := by
  rw [List.drop_eq_getElem_cons h]; simp [List.getD, h]

theorem csum_neg {xs : List Int} {k : Nat} {t : Int} (h : k < xs.length) (hx : xs.getD k 0 < 0) : csum t (xs.drop k) = none := by
  rw [drop_at xs 0 h, csum, if_pos (.inl hx)]

theorem csum_big {xs : List Int} {k : Nat} {t : Int} (h : k < xs.length) (hx : top - xs.getD k 0 < t) : csum t (xs.drop k) = none := by
  rw [drop_at xs 0 h, csum, if_pos (.inr hx)]

theorem csum_step {xs : List Int} {k : Nat} {t : Int} (h : k < xs.length) (h0 : 0 ≤ xs.getD k 0) (hx : t ≤ top - xs.getD k 0) : csum t (xs.drop k) = csum (t + xs.getD k 0) (xs.drop (k + 1)) := by
  rw [drop_at xs 0 h, csum, if_neg (by omega)]

theorem csum_end {xs : List Int} {k : Nat} {t : Int} (h : ¬ k < xs.length) : csum t (xs.drop k) = some t := by
  rw [List.drop_eq_nil_of_le (by omega), csum]

/-- Counts that add up: none negative, the sum fits. -/
def Fit (xs : List Int) : Prop := (∀ x ∈ xs, 0 ≤ x) ∧ sum xs ≤ top

theorem fit_of_csum {t : Int} {xs : List Int} (h : csum 0 xs = some t) : t = sum xs ∧ Fit xs := by
  have := csum_some h
  have h0 : (0 : Int) ≤ top := by unfold top; omega
  have := this.2.2 h0
  exact ⟨by omega, ⟨(csum_some h).2.1, by omega⟩⟩

theorem csum_of_fit {xs : List Int} : ∀ {s : Int}, (∀ x ∈ xs, 0 ≤ x) → s + sum xs ≤ top → csum s xs = some (s + sum xs) := by
  induction xs with
  | nil => intro s _ _; simp [csum, sum]
  | cons x xs ih =>
    intro s h hs
    have hx := h x (by simp)
    have hp : 0 ≤ sum xs := by
      clear ih hs
      have h' : ∀ y ∈ xs, 0 ≤ y := fun y hy => h y (by simp [hy])
      clear h
      induction xs with
      | nil => simp [sum]
      | cons y ys ih2 => simp only [sum]; have := ih2 (fun z hz => h' z (by simp [hz])); have := h' y (by simp); omega
    simp only [sum] at hs
    rw [csum, if_neg (by omega), ih (fun y hy => h y (by simp [hy])) (by omega)]
    simp only [sum]; congr 1; omega

theorem sum_nonneg {xs : List Int} (h : ∀ x ∈ xs, 0 ≤ x) : 0 ≤ sum xs := by
  induction xs with
  | nil => simp [sum]
  | cons y ys ih => simp only [sum]; have := ih (fun z hz => h z (by simp [hz])); have := h y (by simp); omega

theorem sum_split (xs : List Int) (k : Nat) : sum xs = sum (xs.take k) + sum (xs.drop k) := by
  induction xs generalizing k with
  | nil => simp [sum]
  | cons x xs ih =>
    cases k with
    | zero => simp [sum]
    | succ k => simp only [List.take_succ_cons, List.drop_succ_cons, sum]; have := ih k; omega

theorem sum_take_succ (xs : List Int) {k : Nat} (h : k < xs.length) : sum (xs.take (k + 1)) = sum (xs.take k) + xs.getD k 0 := by
  have a := sum_split xs k
  have b := sum_split xs (k + 1)
  rw [drop_at xs 0 h] at a
  simp only [sum] at a
  omega

theorem Fit.take {xs : List Int} (h : Fit xs) (k : Nat) : 0 ≤ sum (xs.take k) ∧ sum (xs.take k) ≤ top := by
  have a := sum_split xs k
  have b := sum_nonneg (xs := xs.take k) (fun x hx => h.1 x (List.mem_of_mem_take hx))
  have c := sum_nonneg (xs := xs.drop k) (fun x hx => h.1 x (List.mem_of_mem_drop hx))
  have := h.2
  omega

theorem Fit.drop {xs : List Int} (h : Fit xs) (k : Nat) : Fit (xs.drop k) := by
  have a := sum_split xs k
  have b := h.take k
  exact ⟨fun x hx => h.1 x (List.mem_of_mem_drop hx), by have := h.2; omega⟩

theorem getD_nonneg {xs : List Int} (h : ∀ x ∈ xs, 0 ≤ x) (k : Nat) : 0 ≤ xs.getD k 0 := by
  by_cases hk : k < xs.length
  · have := h _ (List.getElem_mem hk)
    simpa [List.getD, hk] using this
  · simp [List.getD, Nat.not_lt.1 hk]

/-- The counts one by one. -/
def lex : List Int → List Int → Bool
  | x :: xs, y :: ys => if x = y then lex xs ys else decide (x < y)
  | _, _ => false

/-- What 'before' answers. -/
def before (xs ys : List Int) : Bool := if sum xs = sum ys then lex xs ys else decide (sum xs < sum ys)

theorem lex_same {xs ys : List Int} {k : Nat} (hx : k < xs.length) (hy : k < ys.length) (h : xs.getD k 0 = ys.getD k 0) : lex (xs.drop k) (ys.drop k) = lex (xs.drop (k + 1)) (ys.drop (k + 1)) := by
  rw [drop_at xs 0 hx, drop_at ys 0 hy, lex, if_pos h]

theorem lex_part {xs ys : List Int} {k : Nat} (hx : k < xs.length) (hy : k < ys.length) (h : xs.getD k 0 ≠ ys.getD k 0) : lex (xs.drop k) (ys.drop k) = decide (xs.getD k 0 < ys.getD k 0) := by
  rw [drop_at xs 0 hx, drop_at ys 0 hy, lex, if_neg h]

theorem lex_end {xs ys : List Int} {k : Nat} (hx : ¬ k < xs.length) : lex (xs.drop k) (ys.drop k) = false := by
  rw [List.drop_eq_nil_of_le (by omega), lex]
  simp

theorem before_sums {xs ys : List Int} {s t : Int} (hs : s = sum xs) (ht : t = sum ys) (h : s ≠ t) : before xs ys = decide (s < t) := by
  subst hs; subst ht
  rw [before, if_neg h]

theorem before_nil {xs ys : List Int} (hx : 0 = xs.length) (hy : 0 = ys.length) : before xs ys = false := by
  rw [List.eq_nil_of_length_eq_zero hx.symm, List.eq_nil_of_length_eq_zero hy.symm]; rfl

theorem before_heads {xs ys : List Int} (hs : sum xs = sum ys) (hx : 0 < xs.length) (hy : 0 < ys.length) (h : xs.getD 0 0 ≠ ys.getD 0 0) : before xs ys = decide (xs.getD 0 0 < ys.getD 0 0) := by
  rw [before, if_pos hs]
  have := @lex_part xs ys 0 hx hy h
  simpa using this

theorem before_tails {xs ys : List Int} (hs : sum xs = sum ys) (hx : 0 < xs.length) (hy : 0 < ys.length) (h : xs.getD 0 0 = ys.getD 0 0) : before xs ys = before (xs.drop 1) (ys.drop 1) := by
  have h1 := drop_at xs 0 hx
  have h2 := drop_at ys 0 hy
  simp only [List.drop_zero] at h1 h2
  have h3 := @lex_same xs ys 0 hx hy h
  simp only [List.drop_zero] at h3
  have s1 : sum xs = xs.getD 0 0 + sum (xs.drop 1) := by conv => lhs; rw [h1, sum]
  have s2 : sum ys = ys.getD 0 0 + sum (ys.drop 1) := by conv => lhs; rw [h2, sum]
  rw [before, before, if_pos hs, if_pos (by omega), h3]

end Go.Proofs.Qxb6617269a.Plain
