/-
  A slice of slices of uint64 that comes in, as the walks read it.
-/
import Derived.Test.Qxb6617269aArgs
import Derived.Test.Qxb6617269aFront
import Derived.Deep.Matrix
namespace Go.Proofs.Qxb6617269a
open Go.ChangeShapes Go.WideShapes Go.ChangeAt Go.RowKit

def IsSets (w : World) (a : Option Addr) (len : Nat) (ds : List (Option Addr × Nat × Nat)) : Prop := len = ds.length ∧ len ≤ maxLen ∧ DRow w a ds ∧ DOk w ds

theorem IsSets.nil (w : World) : IsSets w none 0 [] := ⟨rfl, Nat.zero_le _, fun j d h => by simp at h, fun d h => by simp at h⟩

theorem IsSets.of_rows {w : World} {a : Addr} {len cap : Nat} {A : Nat → Option Addr} {L C : Nat → Nat} {Z : Nat → List Int} (hl : len ≤ cap) (hm : cap ≤ maxLen)
    (h : ∀ r, r < cap → w.cell? (a.add r) = some (.slice (A r) (L r) (C r)) ∧ L r ≤ C r ∧ C r ≤ maxLen ∧ (Z r).length = C r ∧ (∀ n ∈ Z r, (Lit.int .u64 n).wf = true) ∧ (A r = none → C r = 0) ∧
        ∀ a', A r = some a' → 0 ≤ a'.block ∧ ∀ c, c < C r → w.cell? (a'.add c) = some (.int .u64 ((Z r).getD c 0))) :
    IsSets w (some a) len ((List.range len).map fun r => (A r, L r, C r)) := by
  refine ⟨by simp, Nat.le_trans hl hm, ?_, ?_⟩
  · intro j d hd
    simp only [List.getElem?_map, Option.map_eq_some_iff] at hd
    obtain ⟨r, hr, rfl⟩ := hd
    obtain ⟨hj, rfl⟩ := List.getElem?_eq_some_iff.1 hr
    simp only [List.length_range] at hj
    simp only [List.getElem_range]
    have h0 := (h 0 (by omega)).1
    obtain ⟨b, off, spot⟩ := a
    have hs : spot = none := by simpa [Addr.add] using World.cell?_spot h0
    subst hs
    refine ⟨b, off, rfl, ?_⟩
    have := (h j (by omega)).1
    rwa [add_plain] at this
  · intro d hd
    obtain ⟨r, hr, rfl⟩ := List.mem_map.1 hd
    have hr' : r < len := List.mem_range.1 hr
    obtain ⟨_, h2, h3, h4, h5, h6, h7⟩ := h r (by omega)
    refine ⟨(Z r).take (L r), by simp; omega, by simp; omega, ?_⟩
    intro j hj
    have hj' : j < L r := by simp at hj; omega
    have hjz : j < (Z r).length := by omega
    cases hA : A r with
    | none => have := h6 hA; omega
    | some x =>
      have hc0 := (h7 x hA).2 0 (by omega)
      have hc := (h7 x hA).2 j (by omega)
      obtain ⟨b, off, spot⟩ := x
      have hs : spot = none := by simpa [Addr.add] using World.cell?_spot hc0
      subst hs
      rw [add_plain] at hc
      refine ⟨b, off, by simp, ?_, ?_⟩
      · rw [hc]; simp [List.getD, hjz, hj']
      · simp [List.getD, hjz, hj']; exact h5 _ (List.getElem_mem hjz)

end Go.Proofs.Qxb6617269a
