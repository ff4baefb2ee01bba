/-
  Write logs: entries, a log as a block of cells (four an entry), append within the capacity; the plain functions 'ins', 'purge'.
-/
import Derived.Test.Qxb6617269aLaws
namespace Go.Proofs.Qxb6617269a
open Go.RowKit

/-- An entry of a write log: the site, the counter, the destinations (a slice's header, as a value), the credit. -/
structure Ent where
  site : Int
  ctr : Int
  da : Option Addr
  dn : Nat
  dc : Nat
  cr : Int

def Ent.ds (e : Ent) : Value := .slice e.da e.dn e.dc
def Ent.cells (e : Ent) : List Value := [.int .i64 e.site, .int .i64 e.ctr, .slice e.da e.dn e.dc, .int .i64 e.cr]
def flat (L : List Ent) : List Value := L.flatMap Ent.cells

theorem flat_nil : flat [] = [] := rfl
theorem flat_cons (e : Ent) (L : List Ent) : flat (e :: L) = e.cells ++ flat L := rfl
theorem flat_append (L M : List Ent) : flat (L ++ M) = flat L ++ flat M := by simp [flat]
theorem flat_length (L : List Ent) : (flat L).length = 4 * L.length := by
  induction L with
  | nil => rfl
  | cons e L ih => rw [flat_cons, List.length_append, ih]; simp [Ent.cells]; omega
theorem flat_take (L : List Ent) (k : Nat) : flat (L.take k) = (flat L).take (4 * k) := by
  induction L generalizing k with
  | nil => simp [flat]
  | cons e L ih =>
    cases k with
    | zero => simp [flat]
    | succ k =>
      rw [List.take_succ_cons, flat_cons, flat_cons, ih]
      have : 4 * (k + 1) = e.cells.length + 4 * k := by simp [Ent.cells]; omega
      rw [this, List.take_length_add_append]
theorem flat_drop (L : List Ent) (k : Nat) : flat (L.drop k) = (flat L).drop (4 * k) := by
  induction L generalizing k with
  | nil => simp [flat]
  | cons e L ih =>
    cases k with
    | zero => simp
    | succ k =>
      rw [List.drop_succ_cons, flat_cons, ih]
      have : 4 * (k + 1) = e.cells.length + 4 * k := by simp [Ent.cells]; omega
      rw [this, List.drop_length_add_append]

/-- The four cells of entry k. -/
theorem flat_at {L : List Ent} {sp : List Value} {k : Nat} {e : Ent} (h : L[k]? = some e) :
    (flat L ++ sp)[4 * k]? = some (.int .i64 e.site) ∧ (flat L ++ sp)[4 * k + 1]? = some (.int .i64 e.ctr) ∧ (flat L ++ sp)[4 * k + 2]? = some (.slice e.da e.dn e.dc) ∧ (flat L ++ sp)[4 * k + 3]? = some (.int .i64 e.cr) := by
  induction L generalizing k with
  | nil => simp at h
  | cons f L ih =>
    cases k with
    | zero => simp at h; subst h; simp [flat_cons, Ent.cells]
    | succ k =>
      simp only [List.getElem?_cons_succ] at h
      have := ih h
      have e4 : ∀ j, (flat (f :: L) ++ sp)[4 * (k + 1) + j]? = (flat L ++ sp)[4 * k + j]? := by
        intro j
        rw [flat_cons, List.append_assoc, List.getElem?_append_right (by simp [Ent.cells]; omega)]
        simp [Ent.cells]
        congr 1
        omega
      exact ⟨by have := e4 0; simp at this; rw [this]; exact ih h |>.1, by rw [e4]; exact this.2.1, by rw [e4]; exact this.2.2.1, by rw [e4]; exact this.2.2.2⟩

theorem cells_one (e : Ent) : ∀ u ∈ e.cells, u.oneCell' = true := by
  intro u hu
  simp [Ent.cells] at hu
  rcases hu with rfl | rfl | rfl | rfl <;> rfl

/-- Only block g has been written; no block has come or gone. -/
structure Upd (g : Nat) (w w' : World) : Prop where
  os : w'.os = w.os
  tape : w'.tape = w.tape
  output : w'.output = w.output
  size : w'.heap.size = w.heap.size
  block : ∀ k, k ≠ g → w'.heap[k]? = w.heap[k]?

theorem Upd.below {g B : Nat} {w w' : World} (h : Upd g w w') (hB : B ≤ g) : Below B w w' := ⟨h.os, h.tape, h.output, by have := h.size; omega, fun k hk => h.block k (by omega)⟩
theorem Blk.upd {g g' : Nat} {w w' : World} {cs : List Value} {e : TypeId} (h : Blk w g cs e) (u : Upd g' w w') (hne : g ≠ g') : Blk w' g cs e := (u.block g hne).trans h

/-- 'append(out, x)' within the capacity of a block of its own: exact. -/
theorem wpList_append_blk {P : Program} {w : World} {ops : Array Oper} {rest : List Oper} {o : Oper} {a : Act} {Q : Exit → Act → World → Prop}
    (hg : o.guard = none) (s x : Operand) (t : TypeId) (hop : o.op = Op.call { callee := Callee.builtin Builtin.append, args := #[s, x], argTypes := #[t, t] })
    (e : TypeId) (i : TypeInfo) (h1 : P.underlying t = some (.slice e)) (h2 : P.info? e = some i)
    (g k cap : Nat) (cur : List Value) (hs : a.eval s = .slice (some ⟨g, 0, none⟩) k cap) (hB : Blk w g cur e) (ad : Addr) (m c : Nat) (news : List Value) (hx : a.eval x = .slice (some ad) m c) (hn : news.length = m * i.size)
    (hc : ∀ j u, news[j]? = some u → w.cell? (ad.add j) = some u) (h1c : ∀ u ∈ news, u.oneCell' = true) (b1 : k + m ≤ cap) (b2 : k * i.size + news.length ≤ cur.length)
    (hK : ∀ w', Blk w' g (cur.take (k * i.size) ++ news ++ cur.drop (k * i.size + news.length)) e → Upd g w w' → wpList P ops Q rest (a.put o.dst (.slice (some ⟨g, 0, none⟩) (k + m) cap)) w') :
    wpList P ops Q (o :: rest) a w := by
  refine wpList_plain hg fun K hK' => ?_
  have hrun := run_append_room (P := P) w t o.type e i h1 h2 g k cap cur.toArray hB ad m c news hn hc h1c b1 (by simpa using b2)
  unfold Oper.wp
  simp [execOp, hop, resolve, invoke, builtin, hs, hx, hrun, Result.andThen]
  have e1 : (cur.take (k * i.size) ++ (news ++ cur.drop (k * i.size + news.length))) = (cur.take (k * i.size) ++ news ++ cur.drop (k * i.size + news.length)) := by rw [List.append_assoc]
  refine hK' _ _ (hK _ ?_ ⟨rfl, rfl, rfl, by simp [World.setRow], fun j hj => setRow_other w g j _ (by omega)⟩)
  have := setRow_heap w g cur.toArray (cur.take (k * i.size) ++ news ++ cur.drop (k * i.size + news.length)).toArray e _ hB
  simpa [Blk] using this

theorem Blk.alloc {w : World} {g : Nat} {cs : List Value} {e : TypeId} (h : Blk w g cs e) (o : Obj) : Blk (w.alloc o) g cs e := by
  have hlt := h.lt
  exact (Below.heap_alloc w o g hlt).trans h

theorem new_cells (W : World) (e : Ent) (b : Nat) (hb : b = W.heap.size) (t : TypeId) : ∀ j u, e.cells[j]? = some u → (W.alloc (.cells e.cells.toArray t)).cell? ((⟨b, 0, none⟩ : Addr).add j) = some u := by
  subst hb
  intro j u hu
  have hB : Blk (W.alloc (.cells e.cells.toArray t)) W.heap.size e.cells t := by
    show (W.heap.push _)[W.heap.size]? = _
    simp
  have ea : (Addr.add ⟨W.heap.size, 0, none⟩ j) = ⟨W.heap.size, j, none⟩ := by
    unfold Addr.add
    split
    · rename_i e0; subst e0; rfl
    · simp
  rw [ea, hB.cell]; exact hu

theorem below_box2 {g : Nat} {w : World} (h : g ≤ w.heap.size) (o o' : Obj) (q : Nat) : Below g w (((w.alloc o).drewN q).alloc o') :=
  (below_draws ((Below.refl g w).alloc h o) q).alloc (by simp; omega) o'

/-! ### The plain functions -/

/-- An entry with no destinations ('dests == nil'). -/
def Ent.bare (e : Ent) : Bool := e.da.isNone

def headIs (s : Int) : List Ent → Bool
  | [] => false
  | f :: _ => f.site == s

/-- What purge leaves. -/
def purge : List Ent → List Ent
  | [] => []
  | e :: r => if e.bare && headIs e.site r then purge r else e :: purge r

/-- e among l, ahead of the first entry of a greater site. -/
def ins (e : Ent) : List Ent → List Ent
  | [] => [e]
  | f :: r => if e.site < f.site then e :: f :: r else f :: ins e r

theorem ins_length (e : Ent) (l : List Ent) : (ins e l).length = l.length + 1 := by
  induction l with
  | nil => rfl
  | cons f r ih => simp only [ins]; split <;> simp [ih]

theorem purge_length (l : List Ent) : (purge l).length ≤ l.length := by
  induction l with
  | nil => simp [purge]
  | cons e r ih => simp only [purge]; split <;> simp <;> omega

end Go.Proofs.Qxb6617269a
