/-
  What raise twice leaves. Plain.
-/
import Derived.Test.Qxb6617269aRaiseA
namespace Go.Proofs.Qxb6617269a
open Go.RowKit
set_option linter.unusedVariables false

def ColOk (rs : List (Bool × Int)) (col : Int) (i : Nat) : Prop := col = 0 ∨ (0 < col ∧ i / col.toNat < rs.length)

theorem topOf_snoc (T : List (Int × Int)) (p : Int × Int) : topOf (T ++ [p]) = p.1 := by simp [topOf]

theorem upRec_no {T : List (Int × Int)} {rs : List (Bool × Int)} {col : Int} {i : Nat} {ops m : Int} (h : m ≤ topOf T) : upRec T rs col i ops m = (T, rs) := by unfold upRec; rw [if_pos h]

theorem upRec_last {T : List (Int × Int)} {rs : List (Bool × Int)} {col : Int} {i : Nat} {ops m : Int} (hc : ColOk rs col i) (h : topOf T < m) : (upRec T rs col i ops m).1.getLast? = some (m, ops) := by
  unfold upRec
  rw [if_neg (by omega)]
  by_cases h0 : col = 0
  · rw [if_pos h0]; simp
  · rw [if_neg h0]
    obtain ⟨s, hs⟩ : ∃ s, rs[i / col.toNat]? = some s := by
      rcases hc with h | ⟨_, h⟩
      · exact absurd h h0
      · exact ⟨rs[i / col.toNat], by simp⟩
    rw [hs]
    obtain ⟨b, g⟩ := s
    cases b <;> simp

theorem upRec_top {T : List (Int × Int)} {rs : List (Bool × Int)} {col : Int} {i : Nat} {ops m : Int} (hc : ColOk rs col i) : topOf (upRec T rs col i ops m).1 = max (topOf T) m := by
  by_cases h : m ≤ topOf T
  · rw [upRec_no h]; show topOf T = _; omega
  · have := upRec_last (ops := ops) hc (show topOf T < m by omega)
    unfold topOf at *
    rw [this]
    show m = _
    omega

theorem upTo_all (rs : List (Bool × Int)) : upTo rs rs.length = rs.map upR := by simp [upTo]

/-- A source's gain behind one raise. -/
def gainOf (col : Int) (i k : Nat) (up : Prop) [Decidable up] (s : Bool × Int) : Int := if s.1 = true ∧ (col = 0 ∨ k = i / col.toNat) ∧ up then wrap64 (s.2 + 1) else s.2

theorem upRec_gain {T : List (Int × Int)} {rs : List (Bool × Int)} {col : Int} {i : Nat} {ops m : Int} (hc : ColOk rs col i) {k : Nat} {s : Bool × Int} (hs : rs[k]? = some s) :
    (upRec T rs col i ops m).2[k]? = some (s.1, gainOf col i k (topOf T < m) s) := by
  by_cases h : m ≤ topOf T
  · rw [upRec_no h]
    show rs[k]? = _
    rw [hs]
    unfold gainOf
    rw [if_neg (by intro ⟨_, _, h'⟩; omega)]
  · unfold upRec
    rw [if_neg h]
    by_cases h0 : col = 0
    · rw [if_pos h0]
      show (upTo rs rs.length)[k]? = _
      rw [upTo_all, List.getElem?_map, hs]
      obtain ⟨b, g⟩ := s
      cases b
      · simp [upR, gainOf]
      · simp [upR, gainOf, h0, show topOf T < m by omega]
    · rw [if_neg h0]
      obtain ⟨s', hs'⟩ : ∃ s, rs[i / col.toNat]? = some s := by
        rcases hc with h | ⟨_, h⟩
        · exact absurd h h0
        · exact ⟨rs[i / col.toNat], by simp⟩
      rw [hs']
      obtain ⟨b', g'⟩ := s'
      by_cases hk : k = i / col.toNat
      · subst hk
        rw [hs] at hs'
        cases hs'
        cases b'
        · simp [gainOf, hs]
        · have hl := (List.getElem?_eq_some_iff.1 hs).1
          simp [gainOf, h0, hl, show topOf T < m by omega]
      · cases b'
        · simp [gainOf, hk, h0, hs]
        · show (rs.set (i / col.toNat) _)[k]? = _
          rw [List.getElem?_set_ne (Ne.symm hk), hs]
          simp [gainOf, hk, h0]

theorem upRec_fst {T : List (Int × Int)} {rs : List (Bool × Int)} {col : Int} {i : Nat} {ops m : Int} (hc : ColOk rs col i) : (upRec T rs col i ops m).2.map Prod.fst = rs.map Prod.fst := by
  apply List.ext_getElem?
  intro k
  rw [List.getElem?_map, List.getElem?_map]
  by_cases hk : k < rs.length
  · obtain ⟨s, hs⟩ : ∃ s, rs[k]? = some s := ⟨rs[k], by simp⟩
    rw [upRec_gain hc hs, hs]
    rfl
  · have e : (upRec T rs col i ops m).2.length = rs.length := by
      unfold upRec
      split
      · rfl
      · split
        · simp [upTo]
        · split <;> simp
    rw [List.getElem?_eq_none (by omega), List.getElem?_eq_none (by omega)]

theorem wrap_wrap (g : Int) : wrap64 (wrap64 (g + 1) + 1) = wrap64 (g + 2) := by unfold wrap64; omega
theorem wrap_in {g : Int} (h1 : -9223372036854775808 ≤ g) (h2 : g ≤ 9223372036854775807) : wrap64 g = g := by unfold wrap64; omega

/-- How many steps two raises take. -/
def added (t n m : Int) : Int := (if t < n then 1 else 0) + (if max t n < m then 1 else 0)

theorem twice_gain {T : List (Int × Int)} {rs : List (Bool × Int)} {col : Int} {i : Nat} {ops n m : Int} (hc : ColOk rs col i) {k : Nat} {s : Bool × Int} (hs : rs[k]? = some s) (h1 : -9223372036854775808 ≤ s.2) (h2 : s.2 ≤ 9223372036854775807) :
    (upRec (upRec T rs col i ops n).1 (upRec T rs col i ops n).2 col i ops m).2[k]? = some (s.1, if s.1 = true ∧ (col = 0 ∨ k = i / col.toNat) then wrap64 (s.2 + added (topOf T) n m) else s.2) := by
  have e1 := upRec_gain (T := T) (ops := ops) (m := n) hc hs
  have hl : (upRec T rs col i ops n).2.length = rs.length := by
    have := congrArg List.length (upRec_fst (T := T) (ops := ops) (m := n) hc)
    simpa using this
  have hc' : ColOk (upRec T rs col i ops n).2 col i := by unfold ColOk at hc ⊢; rw [hl]; exact hc
  rw [upRec_gain hc' e1, upRec_top hc]
  congr 2
  obtain ⟨b, g⟩ := s
  simp only at h1 h2
  unfold gainOf added
  simp only
  by_cases hh : b = true ∧ (col = 0 ∨ k = i / col.toNat)
  · by_cases g1 : topOf T < n <;> by_cases g2 : max (topOf T) n < m
    · rw [if_pos ⟨hh.1, hh.2, g2⟩, if_pos ⟨hh.1, hh.2, g1⟩, if_pos hh, if_pos g1, if_pos g2, wrap_wrap]; rfl
    · rw [if_neg (by intro h; exact g2 h.2.2), if_pos ⟨hh.1, hh.2, g1⟩, if_pos hh, if_pos g1, if_neg g2]; rfl
    · rw [if_pos ⟨hh.1, hh.2, g2⟩, if_neg (by intro h; exact g1 h.2.2), if_pos hh, if_neg g1, if_pos g2]; rfl
    · rw [if_neg (by intro h; exact g2 h.2.2), if_neg (by intro h; exact g1 h.2.2), if_pos hh, if_neg g1, if_neg g2, Int.add_zero, Int.add_zero, wrap_in h1 h2]
  · rw [if_neg (by intro h; exact hh ⟨h.1, h.2.1⟩), if_neg (by intro h; exact hh ⟨h.1, h.2.1⟩), if_neg hh]

theorem twice_last {T : List (Int × Int)} {rs : List (Bool × Int)} {col : Int} {i : Nat} {ops n m : Int} (hc : ColOk rs col i) (h : topOf T < max (max (topOf T) n) m) :
    (upRec (upRec T rs col i ops n).1 (upRec T rs col i ops n).2 col i ops m).1.getLast? = some (max (max (topOf T) n) m, ops) := by
  have hl : (upRec T rs col i ops n).2.length = rs.length := by
    have := congrArg List.length (upRec_fst (T := T) (ops := ops) (m := n) hc)
    simpa using this
  have hc' : ColOk (upRec T rs col i ops n).2 col i := by unfold ColOk at hc ⊢; rw [hl]; exact hc
  by_cases hm : m ≤ max (topOf T) n
  · have e : max (max (topOf T) n) m = n := by omega
    rw [upRec_no (by rw [upRec_top hc]; exact hm), e]
    exact upRec_last hc (by omega)
  · have e : max (max (topOf T) n) m = m := by omega
    rw [e]
    exact upRec_last hc' (by rw [upRec_top hc]; omega)

end Go.Proofs.Qxb6617269a
