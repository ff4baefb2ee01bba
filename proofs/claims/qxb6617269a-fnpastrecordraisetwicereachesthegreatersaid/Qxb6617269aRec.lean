/-
  The record in the heap, and what raises a count in it.
-/
import Derived.Test.Qxb6617269aPast
namespace Go.Proofs.Qxb6617269a
open Go.RowKit
set_option linter.unusedVariables false

theorem top35_any (a : Option Addr) (n c : Nat) (S : List (Int × Int)) (w : World) (hn : n ≤ maxLen) (HL : Hid (n = S.length)) (hR : SRow w a S) :
    Calls Try.prog 35 #[.slice a n c] w fun e w' => e = .returned (.int .i64 (topOf S)) ∧ w' = w := by
  by_cases h0 : n = 0
  · subst h0
    have e : S = [] := List.eq_nil_of_length_eq_zero HL.out.symm
    subst e
    go_enter Try.func35, Try.ntmps35
    go_wp2
    go_ret
    exact ⟨rfl, rfl⟩
  · obtain ⟨k, hk⟩ : ∃ k, n = k + 1 := ⟨n - 1, by omega⟩
    have HK : Hid (n = k + 1) := hk
    have hlt : k < S.length := by have := HL.out; omega
    obtain ⟨p, hp⟩ : ∃ p, S[k]? = some p := ⟨S[k], by simp⟩
    have e : topOf S = p.1 := by
      unfold topOf
      rw [List.getLast?_eq_getElem?, ← HL.out, hk]
      simp [hp]
    rw [e]
    obtain ⟨b, off, rfl, c0, c1⟩ := hR k p hp
    have h1 : (n : Int) - 1 = (k : Int) := by omega
    have hw : wrap64 (k : Int) = (k : Int) := by
      have : (k : Int) ≤ 9223372036854775806 := by unfold maxLen at hn; omega
      unfold wrap64; omega
    have hkn : k < n := by omega
    have hkn' : (k : Int) < (n : Int) := by omega
    have hn0 : ¬ (n : Int) = 0 := by omega
    clear hk hR hp e
    go_enter Try.func35, Try.ntmps35
    go_wp2
    go_ret
    exact ⟨rfl, rfl⟩

/-- The record's own cells. -/
def recCells (A nr F ns : Nat) (ops col : Int) : List Value := [.slice (some ⟨A, 0, none⟩) nr nr, .int .i64 ops, .int .i64 0, .int .i64 0, .int .i64 col, .slice (some ⟨F, 0, none⟩) ns ns, .slice none 0 0]

theorem top37_any (R A nr F ns : Nat) (ops col : Int) (vs : List Value) (i : Nat) (x : Option Addr) (n c : Nat) (S : List (Int × Int)) (w : World) (hR : Blk w R (recCells A nr F ns ops col) 66) (hA : Blk w A vs 68) (hi : i < nr) (hv : vs[i]? = some (.slice x n c)) (hn : n ≤ maxLen) (HL : Hid (n = S.length)) (hS : SRow w x S) :
    Calls Try.prog 37 #[.pointer (some ⟨R, 0, none⟩), .int .i64 i] w fun e w' => e = .returned (.int .i64 (topOf S)) ∧ w' = w := by
  have c0 : w.cell? ⟨R, 0, none⟩ = some (.slice (some ⟨A, 0, none⟩) nr nr) := by rw [hR.cell]; rfl
  have c1 : w.cell? ⟨A, i, none⟩ = some (.slice x n c) := by rw [hA.cell]; exact hv
  have hi' : (i : Int) < (nr : Int) := by omega
  clear hR hA hv
  go_enter Try.func37, Try.ntmps37
  go_wp2_with fail
  refine (top35_any _ _ _ S _ hn HL hS).mono ?_
  rintro e w' ⟨rfl, rfl⟩
  go_wp2
  go_ret
  exact ⟨rfl, rfl⟩

end Go.Proofs.Qxb6617269a
