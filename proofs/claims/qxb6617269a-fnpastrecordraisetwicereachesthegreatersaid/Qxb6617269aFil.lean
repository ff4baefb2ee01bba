/-
  Rows filled place by place; steps read through a slice of slices; the histories' top.
-/
import Derived.Test.Qxb6617269aRaise
import Derived.Deep.DeepCutAuto
namespace Go.Proofs.Qxb6617269a
open Go.RowKit
set_option linter.unusedVariables false

/-- cs is T as far as place k. -/
def Fil (cs T : List Value) (k : Nat) : Prop := cs.length = T.length ∧ cs.take k = T.take k

theorem Fil.zero {cs T : List Value} (h : cs.length = T.length) : Fil cs T 0 := ⟨h, by simp⟩

theorem Fil.set {cs T : List Value} {k : Nat} {v : Value} (h : Fil cs T k) (hv : T[k]? = some v) : Fil (cs.set k v) T (k + 1) := by
  have hk : k < T.length := (List.getElem?_eq_some_iff.1 hv).1
  refine ⟨by simpa using h.1, ?_⟩
  have hk' : k < cs.length := by rw [h.1]; exact hk
  rw [List.take_succ_eq_append_getElem (by simpa using hk'), List.take_succ_eq_append_getElem hk, List.take_set_of_le (Nat.le_refl _), h.2]
  congr 1
  have := (List.getElem?_eq_some_iff.1 hv).2
  simp [this]

theorem Fil.done {cs T : List Value} {k : Nat} (h : Fil cs T k) (hk : T.length ≤ k) : cs = T := by
  have := h.2
  rwa [List.take_of_length_le (by rw [h.1]; exact hk), List.take_of_length_le hk] at this

theorem SRow.keep {w w' : World} {a : Option Addr} {S : List (Int × Int)} (h : SRow w a S) (hb : Below w.heap.size w w') : SRow w' a S := by
  intro j p hp
  obtain ⟨b, off, rfl, c0, c1⟩ := h j p hp
  exact ⟨b, off, rfl, by rw [hb.cell (cell_lt c0)]; exact c0, by rw [hb.cell (cell_lt c1)]; exact c1⟩

/-- A block of steps reads them. -/
theorem SRow.of_blk {w : World} {g : Nat} {S : List (Int × Int)} {e : TypeId} (h : Blk w g (flatS S) e) : SRow w (some ⟨g, 0, none⟩) S := by
  intro j p hp
  obtain ⟨e0, e1⟩ := flatS_at hp
  refine ⟨g, 0, rfl, ?_, ?_⟩
  · rw [Nat.zero_add, h.cell]; exact e0
  · rw [Nat.zero_add, h.cell]; exact e1

set_option maxHeartbeats 1000000 in
theorem risesTop_any (x : Option Addr) (n c : Nat) (S : List (Int × Int)) (w : World) (hn : n ≤ 65536) (HL : Hid (n = S.length)) (hR : SRow w x S) :
    Calls Try.prog 29 #[.slice x n c] w fun e w' => e = .returned (.int .i64 (topOf S)) ∧ Below w.heap.size w w' := by
  obtain ⟨i0, hi0, hz0, hz1, hz2⟩ := info_parts Try.info70
  go_enter Try.func29, Try.ntmps29
  go_upto_region 2 with (first | (at_make; refine wpList_make_blk rfl _ _ 68 rfl 70 i0 _ Try.underlying68 hi0 hz0 n n rfl rfl (Nat.le_refl _) (by rw [hz2]; omega) (by unfold maxLen; omega) ?_; intro w1 hB1 hs1 hb1))
  have hlen : (madeCells (Value.agg #[.int .i64 0, .int .i64 0]).cells (n * i0.size)).toList.length = (flatS S).length := by rw [size_made, hz1, flatS_len, ← HL.out]
  generalize (madeCells (Value.agg #[.int .i64 0, .int .i64 0]).cells (n * i0.size)).toList = zs at hlen hB1
  have hF := Fil.zero hlen
  go_wp2_with fail
  go_loopw [10] (fun i wr => ∃ (k : Nat) (cs : List Value), k ≤ n ∧ i = .int .i64 k ∧ Blk wr w.heap.size cs 70 ∧ Fil cs (flatS S) (k * 2) ∧ Below w.heap.size w wr) (fun i _ => n - (intOf i).toNat)
  case atStart => exact ⟨0, zs, Nat.zero_le _, rfl, hB1, by simpa using hF, hb1⟩
  case round =>
    obtain ⟨k, cs, hk, rfl, hBr, hFr, hbw⟩ := hrel
    by_cases hlt : k < n
    · obtain ⟨p, hp⟩ : ∃ p, S[k]? = some p := ⟨S[k]'(by have := HL.out; omega), by simp⟩
      have hlt' : (k : Int) < (n : Int) := by omega
      obtain ⟨b, off, rfl, c0, c1⟩ := (hR.keep hbw) k p hp
      have hl := hFr.1
      rw [flatS_len, ← HL.out] at hl
      obtain ⟨x0, q0⟩ : ∃ x, wr.cell? ⟨w.heap.size, k * 2, none⟩ = some x := ⟨cs[k * 2]'(by omega), by rw [hBr.cell]; simp⟩
      obtain ⟨x1, q1⟩ : ∃ x, wr.cell? ⟨w.heap.size, k * 2 + 1, none⟩ = some x := ⟨cs[k * 2 + 1]'(by omega), by rw [hBr.cell]; simp⟩
      have z0 := hBr.frozen (k * 2)
      have z1 := hBr.frozen (k * 2 + 1)
      obtain ⟨t0, t1⟩ := flatS_at hp
      have F2 := (hFr.set t0).set t1
      clear t0 t1 hp hR hF hB1 hlen
      go_wp2
      go_region
      go_wp2
      go_roundw
      case rel => exact ⟨k + 1, _, by omega, by go_num, (hBr.set _ _).set _ _, by rw [Nat.succ_mul]; exact F2, ((hbw.setCell (p := ⟨w.heap.size, k * 2, none⟩) (Nat.le_refl _) _).setCell (p := ⟨w.heap.size, k * 2 + 1, none⟩) (Nat.le_refl _) _).drew⟩
      case measure => simp [intOf]; omega
    · have hcs : cs = flatS S := hFr.done (by rw [flatS_len, ← HL.out]; omega)
      subst hcs
      have hSR := SRow.of_blk hBr
      go_wp2_with fail
      refine (top35_any _ _ _ S _ (by unfold maxLen; omega) HL hSR).mono ?_
      rintro e w' ⟨rfl, rfl⟩
      go_wp2
      go_ret
      exact ⟨rfl, hbw⟩

end Go.Proofs.Qxb6617269a
