/-
  Histories and sources in the heap: as they come in, as the record owns them, as they go out. Plain but for the heap.
-/
import Derived.Test.Qxb6617269aFil
namespace Go.Proofs.Qxb6617269a
open Go.RowKit
set_option linter.unusedVariables false

/-- A slice of histories. -/
def In (w : World) (a : Option Addr) (Ts : List (List (Int × Int))) : Prop :=
  ∀ j T, Ts[j]? = some T → ∃ b off x n c, a = some ⟨b, off, none⟩ ∧ w.cell? ⟨b, off + j, none⟩ = some (.slice x n c) ∧ Hid (n = T.length) ∧ (x = none → n = 0 ∧ c = 0) ∧ SRow w x T

theorem In.keep {w w' : World} {a : Option Addr} {Ts : List (List (Int × Int))} (h : In w a Ts) (hb : Below w.heap.size w w') : In w' a Ts := by
  intro j T hT
  obtain ⟨b, off, x, n, c, h1, h2, h3, h4, h5⟩ := h j T hT
  exact ⟨b, off, x, n, c, h1, by rw [hb.cell (cell_lt h2)]; exact h2, h3, h4, h5.keep hb⟩

def BIn (w : World) (a : Option Addr) (bs : List Bool) : Prop := ∀ j b, bs[j]? = some b → ∃ bl off, a = some ⟨bl, off, none⟩ ∧ w.cell? ⟨bl, off + j, none⟩ = some (.bool b)
def GIn (w : World) (a : Option Addr) (gs : List Int) : Prop := ∀ j g, gs[j]? = some g → ∃ bl off, a = some ⟨bl, off, none⟩ ∧ w.cell? ⟨bl, off + j, none⟩ = some (.int .i64 g)

theorem BIn.keep {w w' : World} {a : Option Addr} {bs : List Bool} (h : BIn w a bs) (hb : Below w.heap.size w w') : BIn w' a bs := by
  intro j b hj
  obtain ⟨bl, off, h1, h2⟩ := h j b hj
  exact ⟨bl, off, h1, by rw [hb.cell (cell_lt h2)]; exact h2⟩
theorem GIn.keep {w w' : World} {a : Option Addr} {gs : List Int} (h : GIn w a gs) (hb : Below w.heap.size w w') : GIn w' a gs := by
  intro j b hj
  obtain ⟨bl, off, h1, h2⟩ := h j b hj
  exact ⟨bl, off, h1, by rw [hb.cell (cell_lt h2)]; exact h2⟩

/-- The record's histories: each owned, in a block of its own; from place k on still nil. -/
def Owns (w : World) (B : Nat) (vs : List Value) (Ts : List (List (Int × Int))) (k : Nat) : Prop :=
  vs.length = Ts.length ∧ (∀ j T, j < k → Ts[j]? = some T → ∃ x n c, vs[j]? = some (.slice x n c) ∧ Hid (n = T.length) ∧ w.ownsRow B 70 2 (.slice x n c) n (flatS T)) ∧
    (∀ j, k ≤ j → j < Ts.length → vs[j]? = some (.slice none 0 0)) ∧ (∀ (i j : Nat) (v v' : Value) (b : Nat), vs[i]? = some v → vs[j]? = some v' → v.ownBlock = some b → v'.ownBlock = some b → i = j)

theorem Owns.lt {w : World} {B : Nat} {vs : List Value} {Ts : List (List (Int × Int))} {k : Nat} (h : Owns w B vs Ts k) {j : Nat} {v : Value} {b : Nat} (hv : vs[j]? = some v) (hb : v.ownBlock = some b) : B ≤ b ∧ b < w.heap.size := by
  have hj : j < Ts.length := by rw [← h.1]; exact (List.getElem?_eq_some_iff.1 hv).1
  by_cases hk : j < k
  · obtain ⟨x, n, c, h1, h2, h3⟩ := h.2.1 j _ hk (List.getElem?_eq_getElem hj)
    rw [hv] at h1
    cases h1
    exact World.ownsRow.lt h3 b hb
  · have := h.2.2.1 j (by omega) hj
    rw [hv] at this
    cases this
    cases hb

theorem Owns.zero {w : World} {B n : Nat} {vs : List Value} {Ts : List (List (Int × Int))} (hv : vs = List.replicate Ts.length (.slice none 0 0)) : Owns w B vs Ts 0 := by
  subst hv
  refine ⟨by simp, fun j T hj => by omega, fun j _ hj => by simp [hj], ?_⟩
  intro i j v v' b h1 h2 h3 h4
  have := List.mem_of_getElem? h1
  rw [List.mem_replicate] at this
  rw [this.2] at h3
  cases h3

theorem Owns.nil {w : World} {B : Nat} {vs : List Value} {Ts : List (List (Int × Int))} {k : Nat} (h : Owns w B vs Ts k) (hT : Ts[k]? = some []) : Owns w B vs Ts (k + 1) := by
  refine ⟨h.1, ?_, fun j hj => h.2.2.1 j (by omega), h.2.2.2⟩
  intro j T hj hT'
  by_cases e : j = k
  · subst e
    rw [hT] at hT'
    cases hT'
    exact ⟨none, 0, 0, h.2.2.1 j (Nat.le_refl _) (List.getElem?_eq_some_iff.1 hT).1, rfl, World.ownsRow_nil _ _ _ _⟩
  · exact h.2.1 j T (by omega) hT'

theorem Owns.put {w w' : World} {A B H : Nat} {vs : List Value} {Ts : List (List (Int × Int))} {T : List (Int × Int)} {k n : Nat} (h : Owns w B vs Ts k) (hT : Ts[k]? = some T) (hg : w.grownBy w' (some A)) (hA : A < B) (hB : B ≤ w.heap.size) (hH : H = w.heap.size) (hBl : Blk w' H (flatS T) 70) (hn : Hid (n = T.length)) (hm : n ≤ 65536) :
    Owns w' B (vs.set k (.slice (some ⟨H, 0, none⟩) n n)) Ts (k + 1) := by
  have hk : k < Ts.length := (List.getElem?_eq_some_iff.1 hT).1
  have hk' : k < vs.length := by rw [h.1]; exact hk
  refine ⟨by simpa using h.1, ?_, ?_, ?_⟩
  · intro j T' hj hT'
    by_cases e : j = k
    · subst e
      rw [hT] at hT'
      cases hT'
      refine ⟨some ⟨H, 0, none⟩, n, n, by simp [hk'], hn, ?_, .inr ⟨H, n, (flatS T).toArray, rfl, by omega, hBl, Nat.le_refl _, by unfold maxLen; omega, ?_, ?_⟩⟩
      · rw [flatS_len, hn.out]
      · simp [flatS_len, hn.out]
      · simp [List.take_of_length_le, flatS_len, hn.out]
    · obtain ⟨x, m, c, h1, h2, h3⟩ := h.2.1 j T' (by omega) hT'
      refine ⟨x, m, c, by rw [List.getElem?_set_ne (Ne.symm e)]; exact h1, h2, h3.kept hg (.inr ?_)⟩
      intro e'
      have := (World.ownsRow.lt h3 _ e').1
      omega
  · intro j hj hl
    rw [List.getElem?_set_ne (by omega)]
    exact h.2.2.1 j (by omega) hl
  · have key : ∀ (j : Nat) (v : Value) (b : Nat), (vs.set k (.slice (some ⟨H, 0, none⟩) n n))[j]? = some v → v.ownBlock = some b → (j = k ∧ b = H) ∨ (j ≠ k ∧ vs[j]? = some v ∧ b < H) := by
      intro j v b hv hb
      by_cases e : j = k
      · subst e
        rw [List.getElem?_set_self hk'] at hv
        cases hv
        simp [Value.ownBlock] at hb
        exact .inl ⟨rfl, hb.symm⟩
      · rw [List.getElem?_set_ne (Ne.symm e)] at hv
        exact .inr ⟨e, hv, by rw [hH]; exact (h.lt hv hb).2⟩
    intro i j v v' b h1 h2 h3 h4
    rcases key i v b h1 h3 with ⟨e1, e2⟩ | ⟨e1, e2, e3⟩ <;> rcases key j v' b h2 h4 with ⟨f1, f2⟩ | ⟨f1, f2, f3⟩
    · rw [e1, f1]
    · omega
    · omega
    · exact h.2.2.2 i j v v' b e2 f2 h3 h4

/-- What the record's histories are behind raise. -/
theorem Owns.after {w w2 : World} {A B F i n' c' : Nat} {vs : List Value} {Ts : List (List (Int × Int))} {v : Value} {x' : Option Addr} {T' : List (Int × Int)} (h : Owns w B vs Ts Ts.length) (hvi : vs[i]? = some v) (hA : A < B)
    (hF : ∀ (j : Nat) (v : Value) (b : Nat), vs[j]? = some v → v.ownBlock = some b → b ≠ F) (fr : ∀ b, b < w.heap.size → b ≠ A → b ≠ F → v.ownBlock ≠ some b → w2.heap[b]? = w.heap[b]?) (hA2 : Blk w2 A (vs.set i (.slice x' n' c')) 68)
    (hn' : Hid (n' = T'.length)) (hs : SRow w2 x' T') (hx : x' = none → n' = 0 ∧ c' = 0) : In w2 (some ⟨A, 0, none⟩) (Ts.set i T') := by
  have hi : i < vs.length := (List.getElem?_eq_some_iff.1 hvi).1
  intro j T hT
  by_cases e : j = i
  · subst e
    rw [List.getElem?_set_self (by rw [← h.1]; exact hi)] at hT
    cases hT
    exact ⟨A, 0, x', n', c', rfl, by rw [Nat.zero_add, hA2.cell, List.getElem?_set_self hi], hn', hx, hs⟩
  · rw [List.getElem?_set_ne (Ne.symm e)] at hT
    have hj := (List.getElem?_eq_some_iff.1 hT).1
    obtain ⟨x, n, c, h1, h2, h3⟩ := h.2.1 j T hj hT
    refine ⟨A, 0, x, n, c, rfl, by rw [Nat.zero_add, hA2.cell, List.getElem?_set_ne (Ne.symm e)]; exact h1, h2, ?_, ?_⟩
    · intro hx0
      rcases h3.2 with ⟨e1, e2⟩ | ⟨g, cap, cur, e1, _⟩
      · simp only [Value.slice.injEq] at e1; exact ⟨e2, e1.2.2⟩
      · simp only [Value.slice.injEq] at e1; rw [hx0] at e1; cases e1.1
    · intro l p hp
      have hz : w.ownsRow 0 70 2 (.slice x n c) n (flatS T) := by
        refine ⟨h3.1, ?_⟩
        rcases h3.2 with h | ⟨g, cap, cur, e1, e2, e3⟩
        · exact .inl h
        · exact .inr ⟨g, cap, cur, e1, Nat.zero_le _, e3⟩
      obtain ⟨b, off, rfl, c0, c1⟩ := SRow.of_own hz l p hp
      have hb : w2.heap[b]? = w.heap[b]? := by
        refine fr b (cell_lt c0) ?_ (hF j _ b h1 rfl) ?_
        · have := (h.lt h1 (b := b) rfl).1
          omega
        · intro e'
          exact e (h.2.2.2 j i _ v b h1 hvi rfl e')
      exact ⟨b, off, rfl, (World.cell?_of_block hb).trans c0, (World.cell?_of_block hb).trans c1⟩

/-- The histories as they go out. -/
def Outs (w : World) (O : Nat) (os : List Value) (Ts : List (List (Int × Int))) (k : Nat) : Prop :=
  os.length = Ts.length ∧ (∀ j T, j < k → Ts[j]? = some T → ∃ x n c, os[j]? = some (.slice x n c) ∧ Hid (n = T.length) ∧ (x = none → n = 0 ∧ c = 0) ∧ SRow w x T ∧ (∀ a, x = some a → a.block ≠ O)) ∧
    (∀ j, k ≤ j → j < Ts.length → os[j]? = some (.slice none 0 0))

theorem Outs.zero {w : World} {O : Nat} {os : List Value} {Ts : List (List (Int × Int))} (hv : os = List.replicate Ts.length (.slice none 0 0)) : Outs w O os Ts 0 := by
  subst hv
  exact ⟨by simp, fun j T hj => by omega, fun j _ hj => by simp [hj]⟩

theorem Outs.nil {w : World} {O : Nat} {os : List Value} {Ts : List (List (Int × Int))} {k : Nat} (h : Outs w O os Ts k) (hT : Ts[k]? = some []) : Outs w O os Ts (k + 1) := by
  refine ⟨h.1, ?_, fun j hj => h.2.2 j (by omega)⟩
  intro j T hj hT'
  by_cases e : j = k
  · subst e
    rw [hT] at hT'
    cases hT'
    exact ⟨none, 0, 0, h.2.2 j (Nat.le_refl _) (List.getElem?_eq_some_iff.1 hT).1, rfl, fun _ => ⟨rfl, rfl⟩, fun l p hp => by simp at hp, fun a ha => by cases ha⟩
  · exact h.2.1 j T (by omega) hT'

theorem Outs.put {w w' : World} {O H : Nat} {os : List Value} {Ts : List (List (Int × Int))} {T : List (Int × Int)} {k n : Nat} (h : Outs w O os Ts k) (hT : Ts[k]? = some T) (hg : w.grownBy w' (some O)) (hO : H ≠ O) (hBl : Blk w' H (flatS T) 49) (hn : Hid (n = T.length)) :
    Outs w' O (os.set k (.slice (some ⟨H, 0, none⟩) n n)) Ts (k + 1) := by
  have hk : k < Ts.length := (List.getElem?_eq_some_iff.1 hT).1
  have hk' : k < os.length := by rw [h.1]; exact hk
  refine ⟨by simpa using h.1, ?_, ?_⟩
  · intro j T' hj hT'
    by_cases e : j = k
    · subst e
      rw [hT] at hT'
      cases hT'
      exact ⟨some ⟨H, 0, none⟩, n, n, by simp [hk'], hn, (fun e => by cases e), SRow.of_blk hBl, fun a ha => by cases ha; exact hO⟩
    · obtain ⟨x, m, c, h1, h2, h3, h4, h5⟩ := h.2.1 j T' (by omega) hT'
      refine ⟨x, m, c, by rw [List.getElem?_set_ne (Ne.symm e)]; exact h1, h2, h3, ?_, h5⟩
      intro l p hp
      obtain ⟨b, off, rfl, c0, c1⟩ := h4 l p hp
      have hne := h5 _ rfl
      exact ⟨b, off, rfl, hg.cell c0 (by simpa using hne), hg.cell c1 (by simpa using hne)⟩
  · intro j hj hl
    rw [List.getElem?_set_ne (by omega)]
    exact h.2.2 j (by omega) hl

theorem Outs.done {w : World} {O : Nat} {os : List Value} {Ts : List (List (Int × Int))} (h : Outs w O os Ts Ts.length) (hB : Blk w O os 42) : In w (some ⟨O, 0, none⟩) Ts := by
  intro j T hT
  obtain ⟨x, n, c, h1, h2, h3, h4, h5⟩ := h.2.1 j T (List.getElem?_eq_some_iff.1 hT).1 hT
  exact ⟨O, 0, x, n, c, rfl, by rw [Nat.zero_add, hB.cell]; exact h1, h2, h3, h4⟩

/-! Sources -/
def fillR (rs : List (Bool × Int)) (k : Nat) : List (Bool × Int) := rs.take k ++ List.replicate (rs.length - k) (false, 0)

theorem fillR_at {rs : List (Bool × Int)} {k : Nat} (h : k < rs.length) : (fillR rs k)[k]? = some (false, 0) := by
  unfold fillR
  rw [List.getElem?_append_right (by simp; omega)]
  have h0 : 0 < rs.length - k := by omega
  simp [Nat.min_eq_left (Nat.le_of_lt h), h0]

theorem fillR_step {rs : List (Bool × Int)} {k : Nat} {s : Bool × Int} (h : rs[k]? = some s) : (fillR rs k).set k s = fillR rs (k + 1) := by
  have hk := (List.getElem?_eq_some_iff.1 h).1
  unfold fillR
  have e1 : rs.length - k = (rs.length - (k + 1)) + 1 := by omega
  rw [e1, List.replicate_succ, List.set_append_right _ _ (by simp; omega)]
  simp only [List.length_take, Nat.min_eq_left (Nat.le_of_lt hk), Nat.sub_self, List.set_cons_zero]
  rw [List.take_add_one, h, List.append_assoc]
  rfl

theorem fillR_zero (rs : List (Bool × Int)) : fillR rs 0 = List.replicate rs.length (false, 0) := by simp [fillR]
theorem fillR_all (rs : List (Bool × Int)) : fillR rs rs.length = rs := by simp [fillR]

theorem flatR_set0 : ∀ {rs : List (Bool × Int)} {k : Nat} {s : Bool × Int} (b : Bool), rs[k]? = some s → (flatR rs).set (k * 6) (.bool b) = flatR (rs.set k (b, s.2))
  | [], k, s, g, h => by simp at h
  | a :: rs, 0, s, g, h => by
    simp at h
    subst h
    simp only [List.set_cons_zero, flatR_cons, srcCells]
    rfl
  | a :: rs, k + 1, s, g, h => by
    simp at h
    have hl : (srcCells a).length = 6 := rfl
    rw [flatR_cons, List.set_cons_succ, flatR_cons, ← flatR_set0 g h, List.set_append_right _ _ (by rw [hl]; omega), hl, show (k + 1) * 6 - 6 = k * 6 by omega]

theorem flatR_len : ∀ rs : List (Bool × Int), (flatR rs).length = rs.length * 6
  | [] => rfl
  | a :: rs => by rw [flatR_cons, List.length_append, flatR_len rs]; simp [srcCells]; omega

theorem flatR_rep (s : Bool × Int) : ∀ (n j : Nat), j < n * 6 → (flatR (List.replicate n s))[j]? = (srcCells s)[j % 6]?
  | 0, j, h => by omega
  | n + 1, j, h => by
    have hl : (srcCells s).length = 6 := rfl
    rw [List.replicate_succ, flatR_cons]
    by_cases hj : j < 6
    · rw [List.getElem?_append_left (by rw [hl]; exact hj), Nat.mod_eq_of_lt hj]
    · rw [List.getElem?_append_right (by rw [hl]; omega), hl, flatR_rep s n (j - 6) (by omega)]
      congr 1
      omega

end Go.Proofs.Qxb6617269a
