/-
  The arguments of the law on raise, as the walks read them.
-/
import Derived.Test.Qxb6617269aMat
import Derived.Test.Qxb6617269aArgs
import Derived.Deep.Slices
import Derived.WideShapes
namespace Go.Proofs.Qxb6617269a
open Go.RowKit

section
variable {H : Type} {enc : TypeId × Value → H} {w : World} {base : Nat} {spare : Nat → Bool} {held : Bool}

theorem cells3 : Try.prog.cellsOf 3 = 1 := by kernel_rfl
theorem cells4 : Try.prog.cellsOf 4 = 1 := by kernel_rfl
theorem cells42 : Try.prog.cellsOf 42 = 1 := by kernel_rfl
theorem cells49 : Try.prog.cellsOf 49 = 2 := by kernel_rfl

theorem list2 {cs : List Value} (h : cs.length = 2) : ∃ c0 c1, cs = [c0, c1] := by
  match cs, h with
  | [c0, c1], _ => exact ⟨c0, c1, rfl⟩

theorem open_pair {fuel : Nat} {cs : List Value} {x : DataW H × List MemPlace} (h : DataW.trod enc Try.prog w base spare held fuel 49 cs = some x) :
    ∃ p : Int × Int, cs = [.int .i64 p.1, .int .i64 p.2] := by
  cases fuel with
  | zero => simp [DataW.trod] at h
  | succ n =>
    unfold DataW.trod at h
    rw [Try.underlying49] at h
    simp only at h
    split at h
    case isFalse => cases h
    case isTrue hl =>
    simp only [Option.map_eq_some_iff] at h
    obtain ⟨xs, hp, _⟩ := h
    rw [cells49] at hl
    obtain ⟨c0, c1, rfl⟩ := list2 hl
    have hlen := mapM_some_length hp
    simp only [List.length_range] at hlen
    have g0 := mapM_some_get hp 0 0 (by simp)
    have g1 := mapM_some_get hp 1 1 (by simp)
    rw [cells3] at g0 g1
    rw [List.getElem?_eq_getElem (by omega)] at g0 g1
    obtain ⟨a0, q0, _⟩ := DataW.trod_int Try.underlying3 g0
    obtain ⟨a1, q1, _⟩ := DataW.trod_int Try.underlying3 g1
    simp at q0 q1
    exact ⟨(a0, a1), by rw [q0, q1]⟩

theorem open_steps {fuel : Nat} {cs : List Value} {x : DataW H × List MemPlace} (h : DataW.trod enc Try.prog w base spare held fuel 42 cs = some x) :
    ∃ (y : Option Addr) (n c : Nat) (S : List (Int × Int)), cs = [.slice y n c] ∧ n = S.length ∧ n ≤ maxLen ∧ (y = none → n = 0 ∧ c = 0) ∧ SRow w y S := by
  rcases Deep.open_slice Try.underlying42 h with ⟨h0, _⟩ | ⟨a, len, cap, m, n, D, Pl, rfl, hb, hl, hm, hmm, _, hx⟩
  · exact ⟨none, 0, 0, [], h0, rfl, Nat.zero_le _, fun _ => ⟨rfl, rfl⟩, fun j p hp => by simp at hp⟩
  · have hlm : len ≤ m := by rw [hmm]; split <;> omega
    have hx' : ∀ i, i < len → ∃ p : Int × Int, ∀ j, j < 2 → w.cell? ((a.add (i * 2)).add j) = [Value.int .i64 p.1, .int .i64 p.2][j]? := by
      intro i hi
      obtain ⟨cs', hc, ht⟩ := hx i (by omega)
      obtain ⟨p, rfl⟩ := open_pair ht
      rw [cells49] at hc
      exact ⟨p, (World.cells?_some hc).2.2⟩
    obtain ⟨F, hF⟩ := Deep.choose_lt hx'
    refine ⟨some a, len, cap, (List.range len).map F, rfl, by simp, Nat.le_trans hl hm, (fun e => by cases e), ?_⟩
    intro j p hj
    simp only [List.getElem?_map, Option.map_eq_some_iff] at hj
    obtain ⟨r, hr, rfl⟩ := hj
    obtain ⟨hj, rfl⟩ := List.getElem?_eq_some_iff.1 hr
    simp only [List.length_range] at hj
    simp only [List.getElem_range]
    have c0 := hF 0 (by omega) 0 (by omega)
    obtain ⟨b, off, spot⟩ := a
    have hs : spot = none := by
      simp [Addr.add] at c0
      exact World.cell?_spot c0
    subst hs
    have g0 := hF j hj 0 (by omega)
    have g1 := hF j hj 1 (by omega)
    rw [Deep.add_add, Go.WideShapes.add_plain] at g0 g1
    exact ⟨b, off, rfl, by simpa using g0, by simpa [Nat.add_assoc] using g1⟩

theorem open_mat {fuel : Nat} {cs : List Value} {x : DataW H × List MemPlace} (h : DataW.trod enc Try.prog w base spare held fuel 39 cs = some x) :
    ∃ (y : Option Addr) (n c : Nat) (Ts : List (List (Int × Int))), cs = [.slice y n c] ∧ n = Ts.length ∧ n ≤ maxLen ∧ In w y Ts ∧ ∀ T ∈ Ts, T.length ≤ maxLen := by
  rcases Deep.open_slice Try.underlying39 h with ⟨h0, _⟩ | ⟨a, len, cap, m, n, D, Pl, rfl, hb, hl, hm, hmm, _, hx⟩
  · exact ⟨none, 0, 0, [], h0, rfl, Nat.zero_le _, fun j p hp => by simp at hp, fun T hT => by cases hT⟩
  · have hlm : len ≤ m := by rw [hmm]; split <;> omega
    have hx' : ∀ i, i < len → ∃ S : List (Int × Int), S.length ≤ maxLen ∧ ∃ (y : Option Addr) (n c : Nat), w.cell? (a.add i) = some (.slice y n c) ∧ n = S.length ∧ (y = none → n = 0 ∧ c = 0) ∧ SRow w y S := by
      intro i hi
      obtain ⟨cs', hc, ht⟩ := hx i (by omega)
      obtain ⟨y, n', c', S, rfl, h1, h2, h3, h4⟩ := open_steps ht
      rw [cells42] at hc
      have := (World.cells?_some hc).2.2 0 (by omega)
      simp [Addr.add] at this
      refine ⟨S, by rw [← h1]; exact h2, y, n', c', ?_, h1, h3, h4⟩
      unfold Addr.add
      exact this
    obtain ⟨F, hF⟩ := Deep.choose_lt hx'
    refine ⟨some a, len, cap, (List.range len).map F, rfl, by simp, Nat.le_trans hl hm, ?_, ?_⟩
    · intro j T hj
      simp only [List.getElem?_map, Option.map_eq_some_iff] at hj
      obtain ⟨r, hr, rfl⟩ := hj
      obtain ⟨hj, rfl⟩ := List.getElem?_eq_some_iff.1 hr
      simp only [List.length_range] at hj
      simp only [List.getElem_range]
      obtain ⟨_, y, n', c', g1, g2, g3, g4⟩ := hF j hj
      obtain ⟨_, _, _, _, c0, _⟩ := hF 0 (by omega)
      obtain ⟨b, off, spot⟩ := a
      have hs : spot = none := by
        simp [Addr.add] at c0
        exact World.cell?_spot c0
      subst hs
      rw [Go.WideShapes.add_plain] at g1
      exact ⟨b, off, y, n', c', rfl, g1, g2, g3, g4⟩
    · intro T hT
      obtain ⟨r, hr, rfl⟩ := List.mem_map.1 hT
      exact (hF r (List.mem_range.1 hr)).1

theorem open_bls {fuel : Nat} {cs : List Value} {x : DataW H × List MemPlace} (h : DataW.trod enc Try.prog w base spare held fuel 40 cs = some x) :
    ∃ (y : Option Addr) (n c : Nat) (bs : List Bool), cs = [.slice y n c] ∧ n = bs.length ∧ n ≤ maxLen ∧ BIn w y bs := by
  rcases Deep.open_slice Try.underlying40 h with ⟨h0, _⟩ | ⟨a, len, cap, m, n, D, Pl, rfl, hb, hl, hm, hmm, _, hx⟩
  · exact ⟨none, 0, 0, [], h0, rfl, Nat.zero_le _, fun j p hp => by simp at hp⟩
  · have hlm : len ≤ m := by rw [hmm]; split <;> omega
    have hx' : ∀ i, i < len → ∃ b : Bool, w.cell? (a.add i) = some (.bool b) := by
      intro i hi
      obtain ⟨cs', hc, ht⟩ := hx i (by omega)
      obtain ⟨b, rfl, _⟩ := DataW.trod_bool Try.underlying4 ht
      rw [cells4] at hc
      have := (World.cells?_some hc).2.2 0 (by omega)
      simp [Addr.add] at this
      refine ⟨b, ?_⟩
      unfold Addr.add
      exact this
    obtain ⟨F, hF⟩ := Deep.choose_lt hx'
    refine ⟨some a, len, cap, (List.range len).map F, rfl, by simp, Nat.le_trans hl hm, ?_⟩
    intro j T hj
    simp only [List.getElem?_map, Option.map_eq_some_iff] at hj
    obtain ⟨r, hr, rfl⟩ := hj
    obtain ⟨hj, rfl⟩ := List.getElem?_eq_some_iff.1 hr
    simp only [List.length_range] at hj
    simp only [List.getElem_range]
    have g1 := hF j hj
    have c0 := hF 0 (by omega)
    obtain ⟨b, off, spot⟩ := a
    have hs : spot = none := by
      simp [Addr.add] at c0
      exact World.cell?_spot c0
    subst hs
    rw [Go.WideShapes.add_plain] at g1
    exact ⟨b, off, rfl, g1⟩
end

end Go.Proofs.Qxb6617269a
