/-
  Lines in memory: four cells a line; 'byKey' walked.
-/
import Derived.Test.Qxb6617495aMaps
import Derived.Test.Qxb6617495aPlain
namespace Go.Proofs.Qxb6617495a
open Go.RowKit

def Ln.cells (l : Ln) : List Value := [.string l.t, .string l.e, .string l.k, .bool l.d]
def flat (L : List Ln) : List Value := L.flatMap Ln.cells

theorem flat_nil : flat [] = [] := rfl
theorem flat_cons (e : Ln) (L : List Ln) : flat (e :: L) = e.cells ++ flat L := rfl
theorem flat_append (L M : List Ln) : flat (L ++ M) = flat L ++ flat M := by simp [flat]
theorem flat_length (L : List Ln) : (flat L).length = 4 * L.length := by
  induction L with
  | nil => rfl
  | cons e L ih => rw [flat_cons, List.length_append, ih]; simp [Ln.cells]; omega
theorem flat_take (L : List Ln) (k : Nat) : flat (L.take k) = (flat L).take (4 * k) := by
  induction L generalizing k with
  | nil => simp [flat]
  | cons e L ih =>
    cases k with
    | zero => simp [flat]
    | succ k =>
      rw [List.take_succ_cons, flat_cons, flat_cons, ih]
      have : 4 * (k + 1) = e.cells.length + 4 * k := by simp [Ln.cells]; omega
      rw [this, List.take_length_add_append]
theorem flat_drop (L : List Ln) (k : Nat) : flat (L.drop k) = (flat L).drop (4 * k) := by
  induction L generalizing k with
  | nil => simp [flat]
  | cons e L ih =>
    cases k with
    | zero => simp
    | succ k =>
      rw [List.drop_succ_cons, flat_cons, ih]
      have : 4 * (k + 1) = e.cells.length + 4 * k := by simp [Ln.cells]; omega
      rw [this, List.drop_length_add_append]

/-- The four cells of line k. -/
theorem flat_at {L : List Ln} {sp : List Value} {k : Nat} {e : Ln} (h : L[k]? = some e) :
    (flat L ++ sp)[4 * k]? = some (.string e.t) ∧ (flat L ++ sp)[4 * k + 1]? = some (.string e.e) ∧ (flat L ++ sp)[4 * k + 2]? = some (.string e.k) ∧ (flat L ++ sp)[4 * k + 3]? = some (.bool e.d) := by
  induction L generalizing k with
  | nil => simp at h
  | cons f L ih =>
    cases k with
    | zero => simp at h; subst h; simp [flat_cons, Ln.cells]
    | succ k =>
      simp only [List.getElem?_cons_succ] at h
      have := ih h
      have e4 : ∀ j, (flat (f :: L) ++ sp)[4 * (k + 1) + j]? = (flat L ++ sp)[4 * k + j]? := by
        intro j
        rw [flat_cons, List.append_assoc, List.getElem?_append_right (by simp [Ln.cells]; omega)]
        simp [Ln.cells]
        congr 1
        omega
      exact ⟨by have := e4 0; simp at this; rw [this]; exact ih h |>.1, by rw [e4]; exact this.2.1, by rw [e4]; exact this.2.2.1, by rw [e4]; exact this.2.2.2⟩

theorem cells_one (e : Ln) : ∀ u ∈ e.cells, u.oneCell' = true := by
  intro u hu
  simp [Ln.cells] at hu
  rcases hu with rfl | rfl | rfl | rfl <;> rfl

/-- What an append of one entry at the end of the laid ones makes of the block's cells. -/
theorem flat_push {O : List Ln} {m : Nat} (hO : O.length = m) {e : Ln} {sp : List Value} :
    (flat O ++ sp).take (m * 4) ++ (e.cells ++ (flat O ++ sp).drop (m * 4 + e.cells.length)) = flat (O ++ [e]) ++ sp.drop 4 := by
  have l1 := flat_length O
  have hc : e.cells.length = 4 := rfl
  have e1 : m * 4 = (flat O).length := by omega
  rw [hc, e1, List.take_left, List.drop_length_add_append, flat_append]
  simp [flat]

theorem push_len {O : List Ln} {m N : Nat} {sp : List Value} {e : Ln} (hO : O.length = m) (h : (flat O ++ sp).length = N) (hm : 4 * (m + 1) ≤ N) : (flat (O ++ [e]) ++ sp.drop 4).length = N := by
  rw [List.length_append, flat_length] at h ⊢
  simp at h ⊢
  omega

theorem new_cells (W : World) (e : Ln) (b : Nat) (hb : b = W.heap.size) (t : TypeId) : ∀ j u, e.cells[j]? = some u → (W.alloc (.cells e.cells.toArray t)).cell? ((⟨b, 0, none⟩ : Addr).add j) = some u := by
  subst hb
  intro j u hu
  have hB : Blk (W.alloc (.cells e.cells.toArray t)) W.heap.size e.cells t := by
    show (W.heap.push _)[W.heap.size]? = _
    simp
  have ea : (Addr.add ⟨W.heap.size, 0, none⟩ j) = ⟨W.heap.size, j, none⟩ := by
    unfold Addr.add
    split
    · rename_i e0; subst e0; rfl
    · simp
  rw [ea, hB.cell]; exact hu

theorem below_alloc2 {g : Nat} {w : World} (h : g ≤ w.heap.size) (o o' : Obj) : Below g w ((w.alloc o).alloc o') :=
  ((Below.refl g w).alloc h o).alloc (by simp; omega) o'

theorem drop_cons {L : List Ln} {k : Nat} {f : Ln} (h : L[k]? = some f) : L.drop k = f :: L.drop (k + 1) := by
  have hk : k < L.length := (List.getElem?_eq_some_iff.1 h).1
  rw [List.drop_eq_getElem_cons hk, (List.getElem?_eq_some_iff.1 h).2]


/-- The strings of a line are no longer than memory. -/
def LnOk (l : Ln) : Prop := l.t.size ≤ maxLen ∧ l.e.size ≤ maxLen ∧ l.k.size ≤ maxLen

/-- The map of the lines, its keys as strings. -/
def mapB (L : List Ln) : ByteArray → Option ByteArray := fun y => mapOf L y.data.toList

theorem mapB_snoc (L : List Ln) (l : Ln) : mapB (L ++ [l]) = fun y => if y = l.k then some l.t else mapB L y := by
  funext y
  unfold mapB
  rw [mapOf_snoc]
  by_cases h : y = l.k
  · subst h; simp [Ln.key]
  · have : ¬ y.data.toList = l.key := fun e => h (bytes_ext e)
    rw [if_neg h]; simp only [if_neg this]

theorem num_snoc (L : List Ln) (l : Ln) : (keysOf (L ++ [l])).length = if (mapB L l.k).isSome then (keysOf L).length else (keysOf L).length + 1 := by
  rw [keysOf_snoc]
  have h := isSome_mapOf L l.key
  by_cases hm : l.key ∈ keysOf L
  · have h2 : (mapB L l.k).isSome = true := h.2 hm
    rw [if_pos hm, h2]; rfl
  · have h2 : ¬ (mapB L l.k).isSome = true := fun e => hm (h.1 e)
    rw [if_neg hm, if_neg h2]; simp

theorem Try.info34 : (Try.prog.info? 34).map (fun i => (i.zero, i.size, i.bytes)) = some (some (.agg #[.string ByteArray.empty, .string ByteArray.empty, .string ByteArray.empty, .bool false]), 4, 56) := by kernel_rfl

/-- 'make(map[K]V, n)'. -/
theorem run_makeMap_n (n : Nat) (w : World) : (Instr.makeMap 28 (some (.int .i64 (n : Int)))).run Try.prog w = .ok (.map (some w.heap.size)) (w.alloc (.map #[] 0)) := by
  simp [Instr.makeMap, run_underlying Try.underlying28, asInt, asIntOf]

theorem take_snoc {L : List Ln} {k : Nat} {f : Ln} (h : L[k]? = some f) : L.take (k + 1) = L.take k ++ [f] := by
  have hk : k < L.length := (List.getElem?_eq_some_iff.1 h).1
  rw [List.take_succ_eq_append_getElem hk, (List.getElem?_eq_some_iff.1 h).2]

set_option maxRecDepth 100000 in
set_option maxHeartbeats 1000000 in
theorem byKey_any (g n c : Nat) (L : List Ln) (sp : List Value) (w : World) (hn : n ≤ 65536) (HL : Hid (n = L.length)) (hB : Blk w g (flat L ++ sp) 34) (hok : ∀ l ∈ L, LnOk l) :
    Calls Try.prog 8 #[.slice (some ⟨g, 0, none⟩) n c] w fun x w' => ∃ b, x = .returned (.map (some b)) ∧ SMap w' b (mapB L) (keysOf L).length n ∧ w.heap.size ≤ b ∧ Below w.heap.size w w' := by
  have hgl := hB.lt
  have hmm := fun w => run_makeMap_n n w
  go_enter Try.func8, Try.ntmps8
  go_wp2_with fail
  go_loopw [11] (fun i wr => ∃ k : Nat, k ≤ n ∧ i = .int .i64 k ∧ SMap wr w.heap.size (mapB (L.take k)) (keysOf (L.take k)).length k ∧ Below w.heap.size w wr) (fun i _ => n - (intOf i).toNat)
  case atStart => exact ⟨0, Nat.zero_le _, rfl, SMap.made w, (Below.refl _ _).alloc (Nat.le_refl _) _⟩
  case round =>
    obtain ⟨k, hk, rfl, hM, hbw⟩ := hrel
    have hsz : w.heap.size < wr.heap.size := hM.lt
    by_cases hlt : k < n
    · obtain ⟨f, hf⟩ : ∃ f, L[k]? = some f := ⟨L[k]'(by have := HL.out; omega), by simp⟩
      have hbL := hB.keep hbw hgl
      obtain ⟨c0, c1, c2, c3⟩ := flat_at (sp := sp) hf
      rw [← hbL.cell, Nat.mul_comm] at c0 c1 c2 c3
      have hlt' : (k : Int) < (n : Int) := by omega
      obtain ⟨ok1, ok2, ok3⟩ := hok f (List.mem_of_getElem? hf)
      have E1 : Hid (mapB (L.take (k + 1)) = put1 (mapB (L.take k)) f.k f.t) := by show _ = _; rw [take_snoc hf]; exact mapB_snoc _ _
      have E2 : Hid ((keysOf (L.take (k + 1))).length = num1 (mapB (L.take k) f.k).isSome (keysOf (L.take k)).length) := by show _ = _; rw [take_snoc hf]; exact num_snoc _ _
      clear hf
      go_wp2_with (at_mapUpdate; refine wpList_sput rfl _ _ _ rfl w.heap.size _ k (mapB (L.take k)) f.k f.t rfl rfl rfl (hM.kept (World.grownBy_alloc _ _ none) (by simp)) (by unfold maxLen; omega) ok3 ok1 ?_)
      intro w1 hM1 hg1
      have hbe : Below w.heap.size w w1 := (hbw.alloc (by omega) _).grown hg1 (by simp; omega) (fun j hj => by cases hj; exact Nat.le_refl _)
      have HM1 : Hid (SMap w1 w.heap.size (mapB (L.take (k + 1))) (keysOf (L.take (k + 1))).length (k + 1)) := by rw [E1.out, E2.out]; exact hM1
      clear hM1 hg1 E1 E2
      go_wp2
      go_roundw
      case rel => exact ⟨k + 1, by omega, by go_num, HM1.out, hbe⟩
      case measure => simp [intOf]; omega
    · have ht : L.take k = L := List.take_of_length_le (by have := HL.out; omega)
      rw [ht] at hM
      have kn : k = n := by omega
      subst kn
      have HM : Hid (SMap wr w.heap.size (mapB L) (keysOf L).length k) := hM
      clear hM ht
      go_wp2
      go_ret
      exact ⟨w.heap.size, rfl, HM.out, Nat.le_refl _, hbw⟩

set_option maxHeartbeats 400000 in
theorem ZZbyKey_any (g n c : Nat) (L : List Ln) (sp : List Value) (w : World) (hn : n ≤ 65536) (HL : Hid (n = L.length)) (hB : Blk w g (flat L ++ sp) 34) (hok : ∀ l ∈ L, LnOk l) :
    Calls Try.prog 6 #[.slice (some ⟨g, 0, none⟩) n c] w fun x w' => ∃ b, x = .returned (.map (some b)) ∧ SMap w' b (mapB L) (keysOf L).length n ∧ w.heap.size ≤ b ∧ Below w.heap.size w w' := by
  go_enter Try.func6, Try.ntmps6
  go_wp2_with fail
  refine (byKey_any g n c L sp w hn HL hB hok).mono ?_
  rintro x w' ⟨b, rfl, h1, h2, h3⟩
  go_wp2
  go_ret
  exact ⟨b, rfl, h1, h2, h3⟩

end Go.Proofs.Qxb6617495a
