/-
  How the arguments come in: a slice of integers, opened by the guide's 'open_ints', as a row that the walks read.
-/
import Derived.Test.Qxb6617269aBefore
import Derived.ProofKit
import Derived.OpenShut
import Derived.ShutString
import Derived.ChangeOld
namespace Go.Proofs.Qxb6617269a
open Go.ChangeShapes Go.WideShapes Go.ChangeAt Go.RowKit

theorem own : ownKnob Try.prog.godebug = none := by kernel_rfl
theorem laidOut : laidOutB Try.prog = true := by kernel_rfl

/-- WHAT THE WALK IS TOLD OF A SLICE OF INTEGERS THAT CAME IN: it is nil; or it leads to a row of 'cap' cells, the numbers 'zs' (the first 'len' are its elements, the rest its spare room), each fitting its kind. -/
def IsRow (k : IntKind) (w : World) (a : Option Addr) (len cap : Nat) (zs : List Int) : Prop :=
  (a = none ∧ len = 0 ∧ cap = 0 ∧ zs = []) ∨
  ∃ x, a = some x ∧ len ≤ cap ∧ cap ≤ maxLen ∧ zs.length = cap ∧ (∀ i, i < zs.length → w.cell? (x.add i) = some (.int k (zs.getD i 0))) ∧ ∀ n ∈ zs, (Lit.int k n).wf = true

theorem IsRow.row {k : IntKind} {w : World} {a : Option Addr} {len cap : Nat} {zs : List Int} (h : IsRow k w a len cap zs) :
    ∃ xs : List Int, len = xs.length ∧ Row k w a xs ∧ (a = none → cap = len) ∧ len ≤ maxLen := by
  rcases h with ⟨rfl, rfl, rfl, rfl⟩ | ⟨x, rfl, h1, h2, h3, h4, h5⟩
  · exact ⟨[], rfl, Row.none rfl, fun _ => rfl, Nat.zero_le _⟩
  · refine ⟨zs.take len, by simp; omega, ?_, fun h => (by cases h), Nat.le_trans h1 h2⟩
    intro j hj
    have hj' : j < len := by simp at hj; omega
    have hjz : j < zs.length := by omega
    have hc := h4 j hjz
    have hsp := World.cell?_spot (h4 0 (by omega))
    obtain ⟨b, off, spot⟩ := x
    have : spot = none := by simpa [Addr.add] using hsp
    subst this
    rw [add_plain] at hc
    refine ⟨b, off, rfl, ?_, ?_⟩
    · rw [hc]; simp [List.getD, hjz, hj']
    · simp [List.getD, hjz, hj']; exact h5 _ (List.getElem_mem hjz)

end Go.Proofs.Qxb6617269a
