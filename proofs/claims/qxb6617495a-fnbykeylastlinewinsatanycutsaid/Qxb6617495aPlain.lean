/-
  Lines and the map by key, as plain lists and functions: nothing of the program here.
-/
namespace Go.Proofs.Qxb6617495a

/-- A line: text, end, key, at its default. -/
structure Ln where
  t : ByteArray
  e : ByteArray
  k : ByteArray
  d : Bool

/-- The key's bytes. -/
def Ln.key (l : Ln) : List UInt8 := l.k.data.toList

/-- The map by key: the last line wins. -/
def mapOf (L : List Ln) : List UInt8 → Option ByteArray := L.foldl (fun F l y => if y = l.key then some l.t else F y) (fun _ => none)

/-- The keys, each once, in the order in which they first come. -/
def keysOf (L : List Ln) : List (List UInt8) := L.foldl (fun acc l => if l.key ∈ acc then acc else acc ++ [l.key]) []

theorem mapOf_snoc (L : List Ln) (l : Ln) : mapOf (L ++ [l]) = fun y => if y = l.key then some l.t else mapOf L y := by simp [mapOf, List.foldl_append]
theorem keysOf_snoc (L : List Ln) (l : Ln) : keysOf (L ++ [l]) = if l.key ∈ keysOf L then keysOf L else keysOf L ++ [l.key] := by unfold keysOf; rw [List.foldl_append]; rfl

theorem snoc_ind {p : List Ln → Prop} (h0 : p []) (h1 : ∀ L l, p L → p (L ++ [l])) : ∀ L, p L := by
  intro L
  have : ∀ n (L : List Ln), L.length = n → p L := by
    intro n
    induction n with
    | zero => intro L hL; rw [List.eq_nil_of_length_eq_zero hL]; exact h0
    | succ n ih =>
      intro L hL
      have hne : L ≠ [] := fun e => by subst e; simp at hL
      have e := List.dropLast_concat_getLast hne
      rw [← e]
      exact h1 _ _ (ih _ (by simp [hL]))
  exact this _ L rfl

theorem mem_keysOf (L : List Ln) (y : List UInt8) : y ∈ keysOf L ↔ ∃ l ∈ L, l.key = y := by
  revert y
  refine snoc_ind (p := fun L => ∀ y, y ∈ keysOf L ↔ ∃ l ∈ L, l.key = y) ?_ ?_ L
  · intro y; simp [keysOf]
  · intro L l ih y
    rw [keysOf_snoc]
    by_cases h : l.key ∈ keysOf L
    · rw [if_pos h, ih]
      constructor
      · rintro ⟨x, hx, e⟩; exact ⟨x, by simp [hx], e⟩
      · rintro ⟨x, hx, e⟩
        simp at hx
        rcases hx with hx | rfl
        · exact ⟨x, hx, e⟩
        · rw [← e]; exact (ih _).1 h
    · rw [if_neg h]
      simp only [List.mem_append, List.mem_singleton, ih]
      constructor
      · rintro (⟨x, hx, e⟩ | e)
        · exact ⟨x, by simp [hx], e⟩
        · exact ⟨l, by simp, e.symm⟩
      · rintro ⟨x, hx, e⟩
        rcases hx with hx | rfl
        · exact .inl ⟨x, hx, e⟩
        · exact .inr e.symm

theorem nodup_keysOf (L : List Ln) : (keysOf L).Nodup := by
  refine snoc_ind (p := fun L => (keysOf L).Nodup) ?_ ?_ L
  · simp [keysOf]
  · intro L l ih
    rw [keysOf_snoc]
    by_cases h : l.key ∈ keysOf L
    · rw [if_pos h]; exact ih
    · rw [if_neg h, List.nodup_append]
      refine ⟨ih, by simp, ?_⟩
      intro a ha b hb e
      simp at hb
      subst hb; subst e
      exact h ha

theorem isSome_mapOf (L : List Ln) (y : List UInt8) : (mapOf L y).isSome = true ↔ y ∈ keysOf L := by
  rw [mem_keysOf]
  revert y
  refine snoc_ind (p := fun L => ∀ y, (mapOf L y).isSome = true ↔ ∃ l ∈ L, l.key = y) ?_ ?_ L
  · intro y; simp [mapOf]
  · intro L l ih y
    rw [mapOf_snoc]
    by_cases h : y = l.key
    · subst h
      simp only [if_true]
      exact ⟨fun _ => ⟨l, by simp, rfl⟩, fun _ => rfl⟩
    · simp only [if_neg h]
      rw [ih]
      constructor
      · rintro ⟨x, hx, e⟩; exact ⟨x, by simp [hx], e⟩
      · rintro ⟨x, hx, e⟩
        simp at hx
        rcases hx with hx | rfl
        · exact ⟨x, hx, e⟩
        · exact absurd e.symm h

/-- Cut at any point: the tail's map lies over the head's. -/
theorem mapOf_append (A B : List Ln) (y : List UInt8) : mapOf (A ++ B) y = match mapOf B y with | some t => some t | none => mapOf A y := by
  refine snoc_ind (p := fun B => mapOf (A ++ B) y = match mapOf B y with | some t => some t | none => mapOf A y) ?_ ?_ B
  · simp [mapOf]
  · intro B l ih
    rw [← List.append_assoc, mapOf_snoc, mapOf_snoc]
    by_cases h : y = l.key
    · simp [h]
    · simp only [if_neg h]; exact ih

theorem mapOf_at {L : List Ln} {i : Nat} {l : Ln} (h : L[i]? = some l) : ∃ t, mapOf L l.key = some t := by
  have : l.key ∈ keysOf L := (mem_keysOf L _).2 ⟨l, List.mem_of_getElem? h, rfl⟩
  have h2 := (isSome_mapOf L l.key).2 this
  exact Option.isSome_iff_exists.1 h2

theorem nodup_le : ∀ {A B : List (List UInt8)}, A.Nodup → (∀ x ∈ A, x ∈ B) → A.length ≤ B.length
  | [], _, _, _ => by simp
  | a :: A, B, hn, h => by
    have hn' := List.nodup_cons.1 hn
    have ha : a ∈ B := h a (by simp)
    have := nodup_le (A := A) (B := B.erase a) hn'.2 (fun x hx => by
      have hne : x ≠ a := fun e => hn'.1 (e ▸ hx)
      exact (List.mem_erase_of_ne hne).2 (h x (by simp [hx])))
    rw [List.length_erase_of_mem ha] at this
    have hp : 0 < B.length := List.length_pos_of_mem ha
    simp only [List.length_cons]
    omega

theorem nodup_eq {A B : List (List UInt8)} (ha : A.Nodup) (hb : B.Nodup) (h : ∀ x, x ∈ A ↔ x ∈ B) : A.length = B.length :=
  Nat.le_antisymm (nodup_le ha (fun x hx => (h x).1 hx)) (nodup_le hb (fun x hx => (h x).2 hx))

/-- How many keys of B's are among A's. -/
def common (A B : List Ln) : Nat := ((keysOf B).filter (fun y => decide (y ∈ keysOf A))).length

theorem keys_append (A B : List Ln) : (keysOf (A ++ B)).length + common A B = (keysOf A).length + (keysOf B).length := by
  have e1 : (keysOf (A ++ B)).length = (keysOf A ++ (keysOf B).filter (fun y => !decide (y ∈ keysOf A))).length := by
    apply nodup_eq (nodup_keysOf _)
    · rw [List.nodup_append]
      refine ⟨nodup_keysOf _, (nodup_keysOf _).filter _, ?_⟩
      intro a ha b hb e
      simp at hb
      subst e
      exact hb.2 ha
    · intro x
      simp only [mem_keysOf, List.mem_append, List.mem_filter, Bool.not_eq_true', decide_eq_false_iff_not]
      constructor
      · rintro ⟨l, hl | hl, e⟩
        · exact .inl ⟨l, hl, e⟩
        · by_cases h : ∃ l ∈ A, l.key = x
          · exact .inl h
          · exact .inr ⟨⟨l, hl, e⟩, h⟩
      · rintro (⟨l, hl, e⟩ | ⟨⟨l, hl, e⟩, _⟩)
        · exact ⟨l, .inl hl, e⟩
        · exact ⟨l, .inr hl, e⟩
  have e2 : ∀ K : List (List UInt8), (K.filter (fun y => !decide (y ∈ keysOf A))).length + (K.filter (fun y => decide (y ∈ keysOf A))).length = K.length := by
    intro K
    induction K with
    | nil => rfl
    | cons x K ih =>
      by_cases h : x ∈ keysOf A
      · simp [h]; omega
      · simp [h]; omega
  have := e2 (keysOf B)
  unfold common
  rw [e1, List.length_append]
  omega

end Go.Proofs.Qxb6617495a
