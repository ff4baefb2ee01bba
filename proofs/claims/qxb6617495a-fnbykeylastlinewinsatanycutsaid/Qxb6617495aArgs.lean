/-
  A slice of lines that comes in, as the walks read it.
-/
import Derived.Test.Qxb6617495aToLines
import Derived.Deep.Slices
import Derived.WideShapes
namespace Go.Proofs.Qxb6617495a
open Go.RowKit

section
variable {H : Type} {enc : TypeId × Value → H} {w : World} {base : Nat} {spare : Nat → Bool} {held : Bool}

theorem cells9 : Try.prog.cellsOf 9 = 1 := by kernel_rfl
theorem cells4 : Try.prog.cellsOf 4 = 1 := by kernel_rfl
theorem cells25 : Try.prog.cellsOf 25 = 4 := by kernel_rfl

theorem list4 {cs : List Value} (h : cs.length = 4) : ∃ c0 c1 c2 c3, cs = [c0, c1, c2, c3] := by
  match cs, h with
  | [c0, c1, c2, c3], _ => exact ⟨c0, c1, c2, c3, rfl⟩

theorem some_of_lt {α : Type} {xs : List α} {i : Nat} (h : i < xs.length) : ∃ x, xs[i]? = some x := ⟨xs[i], by simp [h]⟩

theorem open_line {fuel : Nat} {cs : List Value} {x : DataW H × List MemPlace} (h : DataW.trod enc Try.prog w base spare held fuel 25 cs = some x) :
    ∃ l : Ln, cs = [.string l.t, .string l.e, .string l.k, .bool l.d] ∧ LnOk l := by
  obtain ⟨xs, n, _, _, hl, hlen, hfs⟩ := DataW.trod_struct Try.underlying25 h
  rw [cells25] at hl
  obtain ⟨c0, c1, c2, c3, rfl⟩ := list4 hl
  have hlen' : xs.length = 4 := hlen
  obtain ⟨y0, e0⟩ := some_of_lt (xs := xs) (i := 0) (by omega)
  obtain ⟨y1, e1⟩ := some_of_lt (xs := xs) (i := 1) (by omega)
  obtain ⟨y2, e2⟩ := some_of_lt (xs := xs) (i := 2) (by omega)
  obtain ⟨y3, e3⟩ := some_of_lt (xs := xs) (i := 3) (by omega)
  have h0 : DataW.trod enc Try.prog w base spare held n 9 (([c0, c1, c2, c3].drop 0).take (Try.prog.cellsOf 9)) = xs[0]? := hfs 0 _ rfl
  have h1 : DataW.trod enc Try.prog w base spare held n 9 (([c0, c1, c2, c3].drop 1).take (Try.prog.cellsOf 9)) = xs[1]? := hfs 1 _ rfl
  have h2 : DataW.trod enc Try.prog w base spare held n 9 (([c0, c1, c2, c3].drop 2).take (Try.prog.cellsOf 9)) = xs[2]? := hfs 2 _ rfl
  have h3 : DataW.trod enc Try.prog w base spare held n 4 (([c0, c1, c2, c3].drop 3).take (Try.prog.cellsOf 4)) = xs[3]? := hfs 3 _ rfl
  simp only [cells9, cells4] at h0 h1 h2 h3
  rw [e0] at h0; rw [e1] at h1; rw [e2] at h2; rw [e3] at h3
  obtain ⟨s0, q0, _, z0⟩ := DataW.trod_string Try.underlying9 h0
  obtain ⟨s1, q1, _, z1⟩ := DataW.trod_string Try.underlying9 h1
  obtain ⟨s2, q2, _, z2⟩ := DataW.trod_string Try.underlying9 h2
  obtain ⟨s3, q3, _⟩ := DataW.trod_bool Try.underlying4 h3
  simp at q0 q1 q2 q3
  subst q0; subst q1; subst q2; subst q3
  exact ⟨⟨s0, s1, s2, s3⟩, rfl, z0, z1, z2⟩

instance : Inhabited Ln := ⟨⟨ByteArray.empty, ByteArray.empty, ByteArray.empty, false⟩⟩

theorem open_lines {fuel : Nat} {cs : List Value} {x : DataW H × List MemPlace} (h : DataW.trod enc Try.prog w base spare held fuel 22 cs = some x) :
    cs = [.slice none 0 0] ∨ ∃ (a : Addr) (len cap : Nat) (L : List Ln), cs = [.slice (some a) len cap] ∧ len = L.length ∧ len ≤ maxLen ∧ LRow w (some a) L ∧ ∀ l ∈ L, LnOk l := by
  rcases Deep.open_slice Try.underlying22 h with ⟨h0, _⟩ | ⟨a, len, cap, m, n, D, Pl, rfl, hb, hl, hm, hmm, _, hx⟩
  · exact .inl h0
  · have hlm : len ≤ m := by rw [hmm]; split <;> omega
    have hx' : ∀ i, i < len → ∃ l : Ln, (∀ j, j < 4 → w.cell? ((a.add (i * 4)).add j) = [Value.string l.t, .string l.e, .string l.k, .bool l.d][j]?) ∧ LnOk l := by
      intro i hi
      obtain ⟨cs', hc, ht⟩ := hx i (by omega)
      obtain ⟨l, rfl, ho⟩ := open_line ht
      rw [cells25] at hc
      exact ⟨l, (World.cells?_some hc).2.2, ho⟩
    obtain ⟨F, hF⟩ := Deep.choose_lt hx'
    refine .inr ⟨a, len, cap, (List.range len).map F, rfl, by simp, Nat.le_trans hl hm, ?_, ?_⟩
    · intro j l hj
      simp only [List.getElem?_map, Option.map_eq_some_iff] at hj
      obtain ⟨r, hr, rfl⟩ := hj
      obtain ⟨hj, rfl⟩ := List.getElem?_eq_some_iff.1 hr
      simp only [List.length_range] at hj
      simp only [List.getElem_range]
      have c0 := (hF 0 (by omega)).1 0 (by omega)
      obtain ⟨b, off, spot⟩ := a
      have hs : spot = none := by
        simp [Addr.add] at c0
        exact World.cell?_spot c0
      subst hs
      have g0 := (hF j hj).1 0 (by omega)
      have g1 := (hF j hj).1 1 (by omega)
      have g2 := (hF j hj).1 2 (by omega)
      have g3 := (hF j hj).1 3 (by omega)
      rw [Deep.add_add, Go.WideShapes.add_plain] at g0 g1 g2 g3
      exact ⟨b, off, rfl, by simpa using g0, by simpa [Nat.add_assoc] using g1, by simpa [Nat.add_assoc] using g2, by simpa [Nat.add_assoc] using g3⟩
    · intro l hl
      obtain ⟨r, hr, rfl⟩ := List.mem_map.1 hl
      exact (hF r (List.mem_range.1 hr)).2
end

end Go.Proofs.Qxb6617495a
