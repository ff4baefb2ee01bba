/-
  Laws for the walk (the same texts as in the sister seat, typed for this one): a block of cells that the call itself made ('Blk'); make, append over it.
-/
import Derived.Test.Qxb6617495aRows
import Derived.WalkKit
import Derived.WalkSpells
import Derived.Below
import Derived.Deep.QuietTactic
import Derived.BigQuiet
import Derived.Deep.DeepCutAuto
import Derived.Maps.OwnSet
import Derived.Maps.OwnOps
namespace Go.Proofs.Qxb6617495a
open Go.RowKit

/-- Block g of the world holds just the cells cs, of element type e, none of them frozen. -/
def Blk (w : World) (g : Nat) (cs : List Value) (e : TypeId) : Prop := w.heap[g]? = some (.cells cs.toArray e (0, 0))

theorem Blk.lt {w : World} {g : Nat} {cs : List Value} {e : TypeId} (h : Blk w g cs e) : g < w.heap.size := (Array.getElem?_eq_some_iff.1 h).1

theorem Blk.cell {w : World} {g : Nat} {cs : List Value} {e : TypeId} (h : Blk w g cs e) (j : Nat) : w.cell? ⟨g, j, none⟩ = cs[j]? := by
  unfold Blk at h
  simp [World.cell?, h]

theorem Blk.frozen {w : World} {g : Nat} {cs : List Value} {e : TypeId} (h : Blk w g cs e) (j : Nat) : w.frozen? ⟨g, j, none⟩ = false := by
  unfold Blk at h
  simp [World.frozen?, h]

theorem Blk.keep {B : Nat} {w w' : World} {g : Nat} {cs : List Value} {e : TypeId} (h : Blk w g cs e) (hb : Below B w w') (hg : g < B) : Blk w' g cs e := (hb.block g hg).trans h

theorem Blk.drewN {w : World} {g : Nat} {cs : List Value} {e : TypeId} (h : Blk w g cs e) (q : Nat) : Blk (w.drewN q) g cs e := h

theorem below_draws {B : Nat} {a w : World} (h : Below B a w) (n : Nat) : Below B a (w.drewN n) := h.trans ⟨rfl, rfl, rfl, Nat.le_refl _, fun _ _ => rfl⟩

/-- A callee's contract inside a quiet region whose world stands behind m draws already. -/
theorem quiet_at {P : Program} {f : FuncId} {args : Array Value} {w : World} {m n : Nat} {v : Value}
    (h : Calls P f args (w.drewN (m + n)) fun e w' => e = .returned v ∧ ∃ q, w' = (w.drewN (m + n)).drewN q) : Calls P f args (w.drewN (m + n)) fun e w'' => e = .returned v ∧ ∃ q, w'' = w.drewN (m + q) :=
  h.mono fun _ _ ⟨he, q, hm⟩ => ⟨he, n + q, by rw [hm, World.drewN_drewN, Nat.add_assoc]⟩

theorem cell_lt {w : World} {a : Addr} {v : Value} (h : w.cell? a = some v) : a.block < w.heap.size := by
  unfold World.cell? at h
  split at h
  · rename_i hh; exact (Array.getElem?_eq_some_iff.1 hh).1
  · cases h

/-- 'make([]T, n)': a new block of n zero elements; nothing else turns. -/
theorem wpList_make_blk {P : Program} {w : World} {ops : Array Oper} {rest : List Oper} {o : Oper} {a : Act} {Q : Exit → Act → World → Prop}
    (hg : o.guard = none) (l c : Operand) (t : TypeId) (hop : o.op = Op.makeSlice t l c) (e : TypeId) (i : TypeInfo) (z : Value) (h1 : P.underlying t = some (.slice e)) (h2 : P.info? e = some i) (h3 : i.zero = some z)
    (n m : Nat) (hl : a.eval l = .int .i64 (n : Int)) (hc : a.eval c = .int .i64 (m : Int)) (hnm : n ≤ m) (b2 : i.bytes * m ≤ 281474976710656) (b3 : m ≤ maxLen)
    (hK : ∀ w', Blk w' w.heap.size (madeCells z.cells (m * i.size)).toList e → w'.heap.size = w.heap.size + 1 → Below w.heap.size w w' → wpList P ops Q rest (a.put o.dst (.slice (some ⟨w.heap.size, 0, none⟩) n m)) w') :
    wpList P ops Q (o :: rest) a w := by
  refine wpList_plain hg fun K hK' => ?_
  have b3' : (m : Int) ≤ 9223372036854775807 := by unfold maxLen at b3; omega
  have b2' : (i.bytes : Int) * (m : Int) ≤ 281474976710656 := by
    have h : ((i.bytes * m : Nat) : Int) ≤ 281474976710656 := by omega
    rwa [Int.natCast_mul] at h
  have hrun := run_make (P := P) w t e i z h1 h2 h3 .i64 .i64 n m (by omega) (by omega) b2' b3'
  unfold Oper.wp
  simp only [Int.toNat_natCast] at hrun
  simp [execOp, hop, hl, hc, hrun, Result.andThen]
  refine hK' _ _ (hK _ ?_ (by simp) ((Below.refl _ _).alloc (Nat.le_refl _) _))
  show (w.heap.push _)[w.heap.size]? = _
  simp

theorem size_made (z : Value) (n : Nat) : (madeCells z.cells n).toList.length = n := by
  have := size_madeCells z.cells n
  simpa using this

/-- A store into a block of its own. -/
theorem Blk.set {w : World} {g : Nat} {cs : List Value} {e : TypeId} (h : Blk w g cs e) (j : Nat) (v : Value) : Blk (w.setCell ⟨g, j, none⟩ v) g (cs.set j v) e := by
  unfold Blk at h ⊢
  simp only [World.setCell, Array.getElem?_modify, h]
  simp

theorem Blk.set_ne {w : World} {g g' : Nat} {cs : List Value} {e : TypeId} (h : Blk w g cs e) (hne : g ≠ g') (j : Nat) (v : Value) : Blk (w.setCell ⟨g', j, none⟩ v) g cs e := by
  unfold Blk at h ⊢
  rw [Below.heap_setCell _ _ _ _ hne]; exact h

theorem Blk.drew {w : World} {g : Nat} {cs : List Value} {e : TypeId} (h : Blk w g cs e) : Blk w.drew g cs e := h

/-- Only block g has been written; no block has come or gone. -/
structure Upd (g : Nat) (w w' : World) : Prop where
  os : w'.os = w.os
  tape : w'.tape = w.tape
  output : w'.output = w.output
  size : w'.heap.size = w.heap.size
  block : ∀ k, k ≠ g → w'.heap[k]? = w.heap[k]?

theorem Upd.below {g B : Nat} {w w' : World} (h : Upd g w w') (hB : B ≤ g) : Below B w w' := ⟨h.os, h.tape, h.output, by have := h.size; omega, fun k hk => h.block k (by omega)⟩
theorem Blk.upd {g g' : Nat} {w w' : World} {cs : List Value} {e : TypeId} (h : Blk w g cs e) (u : Upd g' w w') (hne : g ≠ g') : Blk w' g cs e := (u.block g hne).trans h

/-- 'append(out, x)' within the capacity of a block of its own: exact. -/
theorem wpList_append_blk {P : Program} {w : World} {ops : Array Oper} {rest : List Oper} {o : Oper} {a : Act} {Q : Exit → Act → World → Prop}
    (hg : o.guard = none) (s x : Operand) (t : TypeId) (hop : o.op = Op.call { callee := Callee.builtin Builtin.append, args := #[s, x], argTypes := #[t, t] })
    (e : TypeId) (i : TypeInfo) (h1 : P.underlying t = some (.slice e)) (h2 : P.info? e = some i)
    (g k cap : Nat) (cur : List Value) (hs : a.eval s = .slice (some ⟨g, 0, none⟩) k cap) (hB : Blk w g cur e) (ad : Addr) (m c : Nat) (news : List Value) (hx : a.eval x = .slice (some ad) m c) (hn : news.length = m * i.size)
    (hc : ∀ j u, news[j]? = some u → w.cell? (ad.add j) = some u) (h1c : ∀ u ∈ news, u.oneCell' = true) (b1 : k + m ≤ cap) (b2 : k * i.size + news.length ≤ cur.length)
    (hK : ∀ w', Blk w' g (cur.take (k * i.size) ++ news ++ cur.drop (k * i.size + news.length)) e → Upd g w w' → wpList P ops Q rest (a.put o.dst (.slice (some ⟨g, 0, none⟩) (k + m) cap)) w') :
    wpList P ops Q (o :: rest) a w := by
  refine wpList_plain hg fun K hK' => ?_
  have hrun := run_append_room (P := P) w t o.type e i h1 h2 g k cap cur.toArray hB ad m c news hn hc h1c b1 (by simpa using b2)
  unfold Oper.wp
  simp [execOp, hop, resolve, invoke, builtin, hs, hx, hrun, Result.andThen]
  have e1 : (cur.take (k * i.size) ++ (news ++ cur.drop (k * i.size + news.length))) = (cur.take (k * i.size) ++ news ++ cur.drop (k * i.size + news.length)) := by rw [List.append_assoc]
  refine hK' _ _ (hK _ ?_ ⟨rfl, rfl, rfl, by simp [World.setRow], fun j hj => setRow_other w g j _ (by omega)⟩)
  have := setRow_heap w g cur.toArray (cur.take (k * i.size) ++ news ++ cur.drop (k * i.size + news.length)).toArray e _ hB
  simpa [Blk] using this

theorem Blk.alloc {w : World} {g : Nat} {cs : List Value} {e : TypeId} (h : Blk w g cs e) (o : Obj) : Blk (w.alloc o) g cs e := by
  have hlt := h.lt
  exact (Below.heap_alloc w o g hlt).trans h

theorem below_box2 {g : Nat} {w : World} (h : g ≤ w.heap.size) (o o' : Obj) (q : Nat) : Below g w (((w.alloc o).drewN q).alloc o') :=
  (below_draws ((Below.refl g w).alloc h o) q).alloc (by simp; omega) o'

theorem cell_keep {w w' : World} {a : Addr} {v : Value} (hb : Below w.heap.size w w') (h : w.cell? a = some v) : w'.cell? a = some v := by rw [hb.cell (cell_lt h)]; exact h

theorem Blk.some {w : World} {g : Nat} {cs : List Value} {e : TypeId} (h : Blk w g cs e) {j : Nat} (hj : j < cs.length) : ∃ x, w.cell? ⟨g, j, none⟩ = some x := ⟨cs[j], by rw [h.cell]; simp⟩

theorem dr1 (w : World) (a : Nat) : ∃ q, w.drewN a = w.drewN q := ⟨a, rfl⟩
theorem dr2 (w : World) (a b : Nat) : ∃ q, (w.drewN a).drewN b = w.drewN q := ⟨a + b, by rw [World.drewN_drewN]⟩
theorem dr3 (w : World) (a b c : Nat) : ∃ q, ((w.drewN a).drewN b).drewN c = w.drewN q := ⟨a + (b + c), by rw [World.drewN_drewN, World.drewN_drewN]⟩

end Go.Proofs.Qxb6617495a
