/-
  Laws for the walk: a block of cells that the call itself made ('Blk'); make, copy over it; slices of integers as rows that are read ('Row').
-/
import Derived.Test.Qxb6617269aSum
import Derived.Laws.CopyOwn
import Derived.Deep.QuietTactic
import Derived.BigQuiet
namespace Go.Proofs.Qxb6617269a
open Go.RowKit

/-- Block g of the world holds just the cells cs, of element type e, none of them frozen. -/
def Blk (w : World) (g : Nat) (cs : List Value) (e : TypeId) : Prop := w.heap[g]? = some (.cells cs.toArray e (0, 0))

theorem Blk.lt {w : World} {g : Nat} {cs : List Value} {e : TypeId} (h : Blk w g cs e) : g < w.heap.size := (Array.getElem?_eq_some_iff.1 h).1

theorem Blk.cell {w : World} {g : Nat} {cs : List Value} {e : TypeId} (h : Blk w g cs e) (j : Nat) : w.cell? ⟨g, j, none⟩ = cs[j]? := by
  unfold Blk at h
  simp [World.cell?, h]

theorem Blk.frozen {w : World} {g : Nat} {cs : List Value} {e : TypeId} (h : Blk w g cs e) (j : Nat) : w.frozen? ⟨g, j, none⟩ = false := by
  unfold Blk at h
  simp [World.frozen?, h]

theorem Blk.keep {B : Nat} {w w' : World} {g : Nat} {cs : List Value} {e : TypeId} (h : Blk w g cs e) (hb : Below B w w') (hg : g < B) : Blk w' g cs e := (hb.block g hg).trans h

theorem Blk.drewN {w : World} {g : Nat} {cs : List Value} {e : TypeId} (h : Blk w g cs e) (q : Nat) : Blk (w.drewN q) g cs e := h

theorem below_draws {B : Nat} {a w : World} (h : Below B a w) (n : Nat) : Below B a (w.drewN n) := h.trans ⟨rfl, rfl, rfl, Nat.le_refl _, fun _ _ => rfl⟩

/-- A callee's contract inside a quiet region whose world stands behind m draws already. -/
theorem quiet_at {P : Program} {f : FuncId} {args : Array Value} {w : World} {m n : Nat} {v : Value}
    (h : Calls P f args (w.drewN (m + n)) fun e w' => e = .returned v ∧ ∃ q, w' = (w.drewN (m + n)).drewN q) : Calls P f args (w.drewN (m + n)) fun e w'' => e = .returned v ∧ ∃ q, w'' = w.drewN (m + q) :=
  h.mono fun _ _ ⟨he, q, hm⟩ => ⟨he, n + q, by rw [hm, World.drewN_drewN, Nat.add_assoc]⟩

theorem cell_lt {w : World} {a : Addr} {v : Value} (h : w.cell? a = some v) : a.block < w.heap.size := by
  unfold World.cell? at h
  split at h
  · rename_i hh; exact (Array.getElem?_eq_some_iff.1 hh).1
  · cases h

theorem Row.keep {k : IntKind} {w w' : World} {a : Option Addr} {xs : List Int} (h : Row k w a xs) (hb : Below w.heap.size w w') : Row k w' a xs := by
  intro j hj
  obtain ⟨b, off, rfl, hc, hw⟩ := h j hj
  exact ⟨b, off, rfl, by rw [hb.cell (cell_lt hc)]; exact hc, hw⟩

theorem Row.drewN {k : IntKind} {w : World} {a : Option Addr} {xs : List Int} (h : Row k w a xs) (q : Nat) : Row k (w.drewN q) a xs := h

/-- The elements of a slice that is a row fit their kind. -/
theorem Row.wf {k : IntKind} {w : World} {a : Option Addr} {xs : List Int} (h : Row k w a xs) : ∀ x ∈ xs, (Lit.int k x).wf = true := by
  intro x hx
  obtain ⟨j, hj, rfl⟩ := List.mem_iff_getElem.1 hx
  obtain ⟨_, _, _, _, hw⟩ := h j hj
  simpa [List.getD, hj] using hw

/-- A block of integers is a row. -/
theorem Blk.row {k : IntKind} {w : World} {g : Nat} {xs : List Int} {e : TypeId} (h : Blk w g (xs.map (Value.int k)) e) (hw : ∀ x ∈ xs, (Lit.int k x).wf = true) : Row k w (some ⟨g, 0, none⟩) xs := by
  intro j hj
  refine ⟨g, 0, rfl, ?_, ?_⟩
  · rw [Nat.zero_add, h.cell]; simp [List.getD, hj]
  · simp [List.getD, hj]; exact hw _ (List.getElem_mem hj)

/-- 'make([]T, n)': a new block of n zero elements; nothing else turns. -/
theorem wpList_make_blk {P : Program} {w : World} {ops : Array Oper} {rest : List Oper} {o : Oper} {a : Act} {Q : Exit → Act → World → Prop}
    (hg : o.guard = none) (l c : Operand) (t : TypeId) (hop : o.op = Op.makeSlice t l c) (e : TypeId) (i : TypeInfo) (z : Value) (h1 : P.underlying t = some (.slice e)) (h2 : P.info? e = some i) (h3 : i.zero = some z)
    (n m : Nat) (hl : a.eval l = .int .i64 (n : Int)) (hc : a.eval c = .int .i64 (m : Int)) (hnm : n ≤ m) (b2 : i.bytes * m ≤ 281474976710656) (b3 : m ≤ maxLen)
    (hK : ∀ w', Blk w' w.heap.size (madeCells z.cells (m * i.size)).toList e → w'.heap.size = w.heap.size + 1 → Below w.heap.size w w' → wpList P ops Q rest (a.put o.dst (.slice (some ⟨w.heap.size, 0, none⟩) n m)) w') :
    wpList P ops Q (o :: rest) a w := by
  refine wpList_plain hg fun K hK' => ?_
  have b3' : (m : Int) ≤ 9223372036854775807 := by unfold maxLen at b3; omega
  have b2' : (i.bytes : Int) * (m : Int) ≤ 281474976710656 := by
    have h : ((i.bytes * m : Nat) : Int) ≤ 281474976710656 := by omega
    rwa [Int.natCast_mul] at h
  have hrun := run_make (P := P) w t e i z h1 h2 h3 .i64 .i64 n m (by omega) (by omega) b2' b3'
  unfold Oper.wp
  simp only [Int.toNat_natCast] at hrun
  simp [execOp, hop, hl, hc, hrun, Result.andThen]
  refine hK' _ _ (hK _ ?_ (by simp) ((Below.refl _ _).alloc (Nat.le_refl _) _))
  show (w.heap.push _)[w.heap.size]? = _
  simp

/-- 'copy(dst, src)', dst the whole of a block of its own, src of the same length. -/
theorem wpList_copy_blk {P : Program} {w : World} {ops : Array Oper} {rest : List Oper} {o : Oper} {a : Act} {Q : Exit → Act → World → Prop} (hgd : o.guard = none) (d s : Operand) (dT sT : TypeId)
    (ho : o.op = .call { callee := .builtin .copy, args := #[d, s], argTypes := #[dT, sT] }) (elem : TypeId) (hu : P.underlying dT = some (.slice elem)) (hsz : (P.info? elem).map (·.size) = some 1)
    (g n dCap sCap : Nat) (sp : Option Addr) (hd : a.eval d = .slice (some ⟨g, 0, none⟩) n dCap) (hs : a.eval s = .slice sp n sCap)
    (cur : List Value) (t : TypeId) (hg : Blk w g cur t) (hcur : cur.length = n) (k : IntKind) (xs : List Int) (hx : xs.length = n) (hr : Row k w sp xs)
    (h : ∀ w', Blk w' g (xs.map (Value.int k)) t → w'.heap.size = w.heap.size → Below g w w' → wpList P ops Q rest (a.put o.dst (goInt n)) w') :
    wpList P ops Q (o :: rest) a w := by
  by_cases h0 : n = 0
  · subst h0
    refine wpList_copy_nothing hgd d s dT sT ho elem hu hsz _ sp 0 dCap 0 sCap hd hs (by simp) ?_
    have e1 : xs = [] := List.eq_nil_of_length_eq_zero hx
    have e2 : cur = [] := List.eq_nil_of_length_eq_zero hcur
    subst e1; subst e2
    exact h w hg rfl (Below.refl _ _)
  · obtain ⟨b, off, rfl, _, _⟩ := hr 0 (by omega)
    refine wpList_copy_own hgd d s dT sT ho elem hu hsz g 0 n dCap ⟨b, off, none⟩ n sCap hd hs cur.toArray t hg (xs.map (Value.int k)) (by simp [hx]) ?_ (by simp; omega) (ints_oneCell k xs) ?_
    · intro j v hv
      have hj : j < xs.length := by
        have := (List.getElem?_eq_some_iff.1 hv).1
        simpa using this
      obtain ⟨b', off', e, hc, _⟩ := hr j hj
      simp at e
      obtain ⟨rfl, rfl⟩ := e
      have ea : (Addr.add ⟨b, off, none⟩ j) = ⟨b, off + j, none⟩ := by
        unfold Addr.add
        split
        · rename_i e0; subst e0; rfl
        · rfl
      rw [ea, hc]
      simp [hj] at hv
      simp [List.getD, hj, hv]
    · have e1 : (cur.toArray.toList.take 0 ++ (xs.map (Value.int k) ++ cur.toArray.toList.drop (0 + (xs.map (Value.int k)).length))).toArray = (xs.map (Value.int k)).toArray := by
        have : cur.drop (0 + (xs.map (Value.int k)).length) = [] := List.drop_eq_nil_of_le (by simp; omega)
        simp only [List.take_zero, List.nil_append, this, List.append_nil]
      rw [e1]
      have e2 : (goInt (xs.map (Value.int k)).length) = goInt n := by simp [hx]
      rw [e2]
      refine h _ (setRow_heap w g _ _ t _ hg) (by simp [World.setRow]) (below_setRow (Below.refl _ _) (Nat.le_refl _) _)

theorem size_made (z : Value) (n : Nat) : (madeCells z.cells n).toList.length = n := by
  have := size_madeCells z.cells n
  simpa using this

theorem Try.info3 : (Try.prog.info? 3).map (fun i => (i.zero, i.size, i.bytes)) = some (some (.int .i64 0), 1, 8) := by kernel_rfl
theorem Try.size3 : (Try.prog.info? 3).map (·.size) = some 1 := by kernel_rfl

/-- A store into a block of its own. -/
theorem Blk.set {w : World} {g : Nat} {cs : List Value} {e : TypeId} (h : Blk w g cs e) (j : Nat) (v : Value) : Blk (w.setCell ⟨g, j, none⟩ v) g (cs.set j v) e := by
  unfold Blk at h ⊢
  simp only [World.setCell, Array.getElem?_modify, h]
  simp

theorem Blk.set_ne {w : World} {g g' : Nat} {cs : List Value} {e : TypeId} (h : Blk w g cs e) (hne : g ≠ g') (j : Nat) (v : Value) : Blk (w.setCell ⟨g', j, none⟩ v) g cs e := by
  unfold Blk at h ⊢
  rw [Below.heap_setCell _ _ _ _ hne]; exact h

theorem Blk.drew {w : World} {g : Nat} {cs : List Value} {e : TypeId} (h : Blk w g cs e) : Blk w.drew g cs e := h

theorem made_ints (n : Nat) : (madeCells (Value.int .i64 0).cells (n * 1)).toList = (List.replicate n (0 : Int)).map (Value.int .i64) := by
  apply List.ext_getElem
  · rw [size_made]; simp
  · intro j h1 h2
    simp [madeCells, Value.cells, Nat.mod_one]


end Go.Proofs.Qxb6617269a
