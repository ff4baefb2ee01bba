/-
  raise (function 34), all arms together.
-/
import Derived.Test.Qxb6617269aRaiseZ
import Derived.Test.Qxb6617269aRaiseR
import Derived.Test.Qxb6617269aRaiseN
import Derived.Test.Qxb6617269aFil
namespace Go.Proofs.Qxb6617269a
open Go.RowKit
set_option linter.unusedVariables false

/-- What raise makes of history T and of the sources. -/
def upRec (T : List (Int × Int)) (rs : List (Bool × Int)) (col : Int) (i : Nat) (ops m : Int) : List (Int × Int) × List (Bool × Int) :=
  if m ≤ topOf T then (T, rs) else if col = 0 then (T ++ [(m, ops)], upTo rs rs.length) else
  match rs[i / col.toNat]? with
  | some (true, g) => (T ++ [(m, ops)], rs.set (i / col.toNat) (true, wrap64 (g + 1)))
  | some (false, _) => ([(m, ops)], rs)
  | none => (T, rs)

def RaiseAny (R A F i : Nat) (rc vs : List Value) (v : Value) (T' : List (Int × Int)) (rs' : List (Bool × Int)) (w : World) (e : Ending) (w' : World) : Prop :=
  ∃ x' n' c' u, e = .returned u ∧ Blk w' R rc 66 ∧ Blk w' A (vs.set i (.slice x' n' c')) 68 ∧ Blk w' F (flatR rs') 72 ∧ Hid (n' = T'.length) ∧ SRow w' x' T' ∧ (x' = none → n' = 0 ∧ c' = 0) ∧
    w'.os = w.os ∧ w'.tape = w.tape ∧ w'.output = w.output ∧ w.heap.size ≤ w'.heap.size ∧ ∀ b, b < w.heap.size → b ≠ A → b ≠ F → v.ownBlock ≠ some b → w'.heap[b]? = w.heap[b]?

theorem RaisePost.any {R A F i : Nat} {rc vs : List Value} {v : Value} {S' : List (Int × Int)} {rs' : List (Bool × Int)} {w : World} {e : Ending} {w' : World} (h : RaisePost R A F i rc vs v S' rs' w e w') : RaiseAny R A F i rc vs v S' rs' w e w' := by
  obtain ⟨g, cap, u, h1, h2, h3, h4, h5, h6, h7, h8, h9, h10, h11⟩ := h
  exact ⟨_, _, _, u, h1, h2, h3, h4, rfl, SRow.of_own h5, (fun e => by cases e), h7, h8, h9, h10, h11⟩

theorem set_same {α : Type} {xs : List α} {i : Nat} {v : α} (h : xs[i]? = some v) : xs.set i v = xs := by
  apply List.ext_getElem?
  intro j
  rw [List.getElem?_set]
  by_cases hj : i = j
  · subst hj
    rw [if_pos rfl, h]
    simp [(List.getElem?_eq_some_iff.1 h).1]
  · rw [if_neg hj]

theorem raise_any (R A nr F ns : Nat) (ops col : Int) (vs : List Value) (i : Nat) (x : Option Addr) (n c : Nat) (m : Int) (S : List (Int × Int)) (rs : List (Bool × Int)) (w : World) (hR : Blk w R (recCells A nr F ns ops col) 66) (hA : Blk w A vs 68) (hF : Blk w F (flatR rs) 72) (hi : i < nr) (hv : vs[i]? = some (.slice x n c)) (HL : Hid (n = S.length)) (hS : w.ownsRow 0 70 2 (.slice x n c) n (flatS S)) (hns : ns ≤ 65536) (hrs : Hid (ns = rs.length)) (nRA : R ≠ A) (nRF : R ≠ F) (nAF : A ≠ F) (hvR : (Value.slice x n c).ownBlock ≠ some R) (hvA : (Value.slice x n c).ownBlock ≠ some A) (hvF : (Value.slice x n c).ownBlock ≠ some F) (hn2 : n ≤ 65536) (hi2 : i ≤ 65536) (hcol : col = 0 ∨ (0 < col ∧ i / col.toNat < ns)) :
    Calls Try.prog 34 #[.pointer (some ⟨R, 0, none⟩), .int .i64 i, .int .i64 m] w fun e w' => RaiseAny R A F i (recCells A nr F ns ops col) vs (.slice x n c) (upRec S rs col i ops m).1 (upRec S rs col i ops m).2 w e w' := by
  have hn : n ≤ maxLen := by unfold maxLen; omega
  by_cases hm : m ≤ topOf S
  · have e : upRec S rs col i ops m = (S, rs) := by unfold upRec; rw [if_pos hm]
    rw [e]
    refine (raise_no R A nr F ns ops col vs i x n c m S w hR hA hi hv hn HL (SRow.of_own hS) hm).mono ?_
    rintro e' w' ⟨⟨u, rfl⟩, rfl⟩
    refine ⟨x, n, c, u, rfl, hR, by rw [set_same hv]; exact hA, hF, HL, SRow.of_own hS, ?_, rfl, rfl, rfl, Nat.le_refl _, fun _ _ _ _ _ => rfl⟩
    intro hx
    rcases own_form hS with ⟨_, h1, h2⟩ | ⟨g, h1, _⟩
    · exact ⟨h1, h2⟩
    · rw [hx] at h1; cases h1
  · by_cases hc : col = 0
    · subst hc
      have e : upRec S rs 0 i ops m = (S ++ [(m, ops)], upTo rs ns) := by unfold upRec; rw [if_neg hm, if_pos rfl, ← hrs.out]
      rw [e]
      exact (raise_zero R A nr F ns ops vs i x n c m S rs w hR hA hF hi hv hn HL hS (by omega) hns hrs nRA nRF nAF hvR hvA hvF hn2).mono fun _ _ h => h.any
    · obtain ⟨hc0, hq⟩ : 0 < col ∧ i / col.toNat < ns := by
        rcases hcol with h | h
        · exact absurd h hc
        · exact h
      obtain ⟨s, hs⟩ : ∃ s, rs[i / col.toNat]? = some s := ⟨rs[i / col.toNat]'(by have := hrs.out; omega), by simp⟩
      have HQ : Hid ((i : Int).tdiv col = ((i / col.toNat : Nat) : Int)) := by
        show _ = _
        have : col = ((col.toNat : Nat) : Int) := by omega
        rw [this]
        exact Int.ofNat_tdiv i col.toNat
      obtain ⟨b, g⟩ := s
      cases b with
      | false =>
        have e : upRec S rs col i ops m = ([(m, ops)], rs) := by unfold upRec; rw [if_neg hm, if_neg hc, hs]
        rw [e]
        exact (raise_skip R A nr F ns ops col _ g vs i x n c m S rs w hR hA hF hi hv hn HL hS (by omega) hns hq hc HQ hs nRA nRF nAF hvR hvA hvF hn2 hi2).mono fun _ _ h => h.any
      | true =>
        have e : upRec S rs col i ops m = (S ++ [(m, ops)], rs.set (i / col.toNat) (true, wrap64 (g + 1))) := by unfold upRec; rw [if_neg hm, if_neg hc, hs]
        rw [e]
        exact (raise_read R A nr F ns ops col _ g vs i x n c m S rs w hR hA hF hi hv hn HL hS (by omega) hns hq hc HQ hs nRA nRF nAF hvR hvA hvF hn2 hi2).mono fun _ _ h => h.any

end Go.Proofs.Qxb6617269a
