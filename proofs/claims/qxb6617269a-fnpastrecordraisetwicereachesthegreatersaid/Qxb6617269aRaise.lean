/-
  raise (function 34).
-/
import Derived.Test.Qxb6617269aSrc
import Derived.Deep.AppendLies
import Derived.Deep.RegionLaw
import Derived.BigRegion
namespace Go.Proofs.Qxb6617269a
open Go.RowKit
set_option linter.unusedVariables false

theorem Try.info70 : (Try.prog.info? 70).map (fun i => (i.zero, i.size, i.bytes)) = some (some (.agg #[.int .i64 0, .int .i64 0]), 2, 16) := by kernel_rfl


/-! The k-th of a list written out. -/
theorem at0 {α : Type} {x0 : α} {xs : List α} : (x0 :: xs).toArray[0]? = some x0 := rfl
theorem at1 {α : Type} {x0 x1 : α} {xs : List α} : (x0 :: x1 :: xs).toArray[1]? = some x1 := rfl
theorem at2 {α : Type} {x0 x1 x2 : α} {xs : List α} : (x0 :: x1 :: x2 :: xs).toArray[2]? = some x2 := rfl
theorem at3 {α : Type} {x0 x1 x2 x3 : α} {xs : List α} : (x0 :: x1 :: x2 :: x3 :: xs).toArray[3]? = some x3 := rfl
theorem at4 {α : Type} {x0 x1 x2 x3 x4 : α} {xs : List α} : (x0 :: x1 :: x2 :: x3 :: x4 :: xs).toArray[4]? = some x4 := rfl
theorem at5 {α : Type} {x0 x1 x2 x3 x4 x5 : α} {xs : List α} : (x0 :: x1 :: x2 :: x3 :: x4 :: x5 :: xs).toArray[5]? = some x5 := rfl
theorem at6 {α : Type} {x0 x1 x2 x3 x4 x5 x6 : α} {xs : List α} : (x0 :: x1 :: x2 :: x3 :: x4 :: x5 :: x6 :: xs).toArray[6]? = some x6 := rfl
theorem at7 {α : Type} {x0 x1 x2 x3 x4 x5 x6 x7 : α} {xs : List α} : (x0 :: x1 :: x2 :: x3 :: x4 :: x5 :: x6 :: x7 :: xs).toArray[7]? = some x7 := rfl
theorem at8 {α : Type} {x0 x1 x2 x3 x4 x5 x6 x7 x8 : α} {xs : List α} : (x0 :: x1 :: x2 :: x3 :: x4 :: x5 :: x6 :: x7 :: x8 :: xs).toArray[8]? = some x8 := rfl
theorem at9 {α : Type} {x0 x1 x2 x3 x4 x5 x6 x7 x8 x9 : α} {xs : List α} : (x0 :: x1 :: x2 :: x3 :: x4 :: x5 :: x6 :: x7 :: x8 :: x9 :: xs).toArray[9]? = some x9 := rfl
theorem at10 {α : Type} {x0 x1 x2 x3 x4 x5 x6 x7 x8 x9 x10 : α} {xs : List α} : (x0 :: x1 :: x2 :: x3 :: x4 :: x5 :: x6 :: x7 :: x8 :: x9 :: x10 :: xs).toArray[10]? = some x10 := rfl
theorem at11 {α : Type} {x0 x1 x2 x3 x4 x5 x6 x7 x8 x9 x10 x11 : α} {xs : List α} : (x0 :: x1 :: x2 :: x3 :: x4 :: x5 :: x6 :: x7 :: x8 :: x9 :: x10 :: x11 :: xs).toArray[11]? = some x11 := rfl
theorem at12 {α : Type} {x0 x1 x2 x3 x4 x5 x6 x7 x8 x9 x10 x11 x12 : α} {xs : List α} : (x0 :: x1 :: x2 :: x3 :: x4 :: x5 :: x6 :: x7 :: x8 :: x9 :: x10 :: x11 :: x12 :: xs).toArray[12]? = some x12 := rfl
theorem at13 {α : Type} {x0 x1 x2 x3 x4 x5 x6 x7 x8 x9 x10 x11 x12 x13 : α} {xs : List α} : (x0 :: x1 :: x2 :: x3 :: x4 :: x5 :: x6 :: x7 :: x8 :: x9 :: x10 :: x11 :: x12 :: x13 :: xs).toArray[13]? = some x13 := rfl
theorem at14 {α : Type} {x0 x1 x2 x3 x4 x5 x6 x7 x8 x9 x10 x11 x12 x13 x14 : α} {xs : List α} : (x0 :: x1 :: x2 :: x3 :: x4 :: x5 :: x6 :: x7 :: x8 :: x9 :: x10 :: x11 :: x12 :: x13 :: x14 :: xs).toArray[14]? = some x14 := rfl
theorem at15 {α : Type} {x0 x1 x2 x3 x4 x5 x6 x7 x8 x9 x10 x11 x12 x13 x14 x15 : α} {xs : List α} : (x0 :: x1 :: x2 :: x3 :: x4 :: x5 :: x6 :: x7 :: x8 :: x9 :: x10 :: x11 :: x12 :: x13 :: x14 :: x15 :: xs).toArray[15]? = some x15 := rfl
theorem at16 {α : Type} {x0 x1 x2 x3 x4 x5 x6 x7 x8 x9 x10 x11 x12 x13 x14 x15 x16 : α} {xs : List α} : (x0 :: x1 :: x2 :: x3 :: x4 :: x5 :: x6 :: x7 :: x8 :: x9 :: x10 :: x11 :: x12 :: x13 :: x14 :: x15 :: x16 :: xs).toArray[16]? = some x16 := rfl
theorem at17 {α : Type} {x0 x1 x2 x3 x4 x5 x6 x7 x8 x9 x10 x11 x12 x13 x14 x15 x16 x17 : α} {xs : List α} : (x0 :: x1 :: x2 :: x3 :: x4 :: x5 :: x6 :: x7 :: x8 :: x9 :: x10 :: x11 :: x12 :: x13 :: x14 :: x15 :: x16 :: x17 :: xs).toArray[17]? = some x17 := rfl

/-- What raise leaves: the row at i is v' and reads S', the sources are rs'; nothing else that was there has changed. -/
def RaisePost (R A F i : Nat) (rc vs : List Value) (v : Value) (S' : List (Int × Int)) (rs' : List (Bool × Int)) (w : World) (e : Ending) (w' : World) : Prop :=
  ∃ g cap u, e = .returned u ∧ Blk w' R rc 66 ∧ Blk w' A (vs.set i (.slice (some ⟨g, 0, none⟩) S'.length cap)) 68 ∧ Blk w' F (flatR rs') 72 ∧ w'.ownsRow 0 70 2 (.slice (some ⟨g, 0, none⟩) S'.length cap) S'.length (flatS S') ∧
    (v.ownBlock = some g ∨ w.heap.size ≤ g) ∧ w'.os = w.os ∧ w'.tape = w.tape ∧ w'.output = w.output ∧ w.heap.size ≤ w'.heap.size ∧ ∀ b, b < w.heap.size → b ≠ A → b ≠ F → v.ownBlock ≠ some b → w'.heap[b]? = w.heap[b]?

def upR (s : Bool × Int) : Bool × Int := if s.1 then (s.1, wrap64 (s.2 + 1)) else s
def upTo (rs : List (Bool × Int)) (k : Nat) : List (Bool × Int) := (rs.take k).map upR ++ rs.drop k

theorem upTo_at {rs : List (Bool × Int)} {k : Nat} {s : Bool × Int} (h : rs[k]? = some s) : (upTo rs k)[k]? = some s := by
  have hk := (List.getElem?_eq_some_iff.1 h).1
  unfold upTo
  rw [List.getElem?_append_right (by simp; omega)]
  simp [Nat.min_eq_left (Nat.le_of_lt hk), h]

theorem upTo_step {rs : List (Bool × Int)} {k : Nat} {s : Bool × Int} (h : rs[k]? = some s) : upTo rs (k + 1) = (upTo rs k).set k (upR s) := by
  have hk := (List.getElem?_eq_some_iff.1 h).1
  have hd : rs.drop k = s :: rs.drop (k + 1) := by
    rw [List.drop_eq_getElem_cons hk]
    congr 1
    rw [List.getElem?_eq_getElem hk] at h
    exact Option.some.inj h
  have ht : rs.take (k + 1) = rs.take k ++ [s] := by rw [List.take_add_one, h]; rfl
  unfold upTo
  rw [hd, ht, List.map_append, List.append_assoc, List.set_append_right _ _ (by simp; omega)]
  simp [Nat.min_eq_left (Nat.le_of_lt hk)]

theorem upTo_zero (rs : List (Bool × Int)) : upTo rs 0 = rs := by simp [upTo]

theorem grown_setCell (w : World) (F j : Nat) (v : Value) : w.grownBy (w.setCell ⟨F, j, none⟩ v) (some F) :=
  ⟨rfl, rfl, rfl, by simp [World.setCell], fun k hk hne => by
    have : k ≠ F := fun e => hne (by rw [e])
    rw [Below.heap_setCell _ _ _ _ this]⟩

theorem upTo_false {rs : List (Bool × Int)} {k : Nat} {g : Int} (h : rs[k]? = some (false, g)) : upTo rs (k + 1) = upTo rs k := by
  rw [upTo_step h]
  have := upTo_at h
  have e : upR (false, g) = (false, g) := rfl
  rw [e]
  apply List.ext_getElem?
  intro j
  rw [List.getElem?_set]
  by_cases hj : k = j
  · subst hj
    rw [if_pos rfl, this]
    simp [(List.getElem?_eq_some_iff.1 this).1]
  · rw [if_neg hj]

theorem raise_end {R A F i k n c g cap : Nat} {x : Option Addr} {rc vs : List Value} {T : List (Int × Int)} {rs' : List (Bool × Int)} {w wr w2 : World} (h1 : w.grownBy wr (some F)) (hR : Blk w R rc 66) (hA : Blk w A vs 68) (hFr : Blk wr F (flatR rs') 72)
    (nRA : R ≠ A) (nRF : R ≠ F) (nAF : A ≠ F) (hvR : (Value.slice x n c).ownBlock ≠ some R) (hvA : (Value.slice x n c).ownBlock ≠ some A) (hvF : (Value.slice x n c).ownBlock ≠ some F) (hlt : ∀ b, (Value.slice x n c).ownBlock = some b → b < w.heap.size) (o : Obj)
    (hown : w2.ownsRow 0 70 2 (.slice (some ⟨g, 0, none⟩) k cap) k (flatS T)) (hk : k = T.length) (hg2 : (wr.alloc o).drew.grownBy w2 (Value.slice x n c).ownBlock) (hl2 : (Value.slice x n c).ownBlock = some g ∨ g = (wr.alloc o).drew.heap.size) (u : Value) :
    RaisePost R A F i rc vs (.slice x n c) T rs' w (.returned u) (w2.setCell ⟨A, i, none⟩ (.slice (some ⟨g, 0, none⟩) k cap)) := by
  subst hk
  have hRl := hR.lt
  have hAl := hA.lt
  have hFl := hFr.lt
  have hs := h1.size
  have ha := World.grownBy_alloc wr o none
  have hsz : (wr.alloc o).drew.heap.size = wr.heap.size + 1 := by simp
  rw [hsz] at hl2
  have hR2 : Blk w2 R rc 66 := (hg2.block R (by simp; omega) (fun e => hvR e.symm)).trans ((ha.block R (by omega) (by simp)).trans ((h1.block R hRl (by simpa using nRF)).trans hR))
  have hA2 : Blk w2 A vs 68 := (hg2.block A (by simp; omega) (fun e => hvA e.symm)).trans ((ha.block A (by omega) (by simp)).trans ((h1.block A hAl (by simpa using nAF)).trans hA))
  have hF2 : Blk w2 F (flatR rs') 72 := (hg2.block F (by simp; omega) (fun e => hvF e.symm)).trans ((ha.block F (by omega) (by simp)).trans hFr)
  have hgA : g ≠ A := by
    rcases hl2 with e | e
    · exact fun e' => hvA (by rw [e, e'])
    · omega
  refine ⟨g, cap, u, rfl, hR2.set_ne nRA _ _, hA2.set _ _, hF2.set_ne (Ne.symm nAF) _ _, ?_, ?_, hg2.os.trans h1.os, hg2.tape.trans h1.tape, hg2.output.trans h1.output, ?_, ?_⟩
  · exact hown.kept (grown_setCell _ _ _ _) (.inr (by simpa [Value.ownBlock] using hgA))
  · rcases hl2 with e | e
    · exact .inl e
    · right; omega
  · have := hg2.size
    simp [World.setCell] at this ⊢
    omega
  · intro b hb hbA hbF hbv
    rw [Below.heap_setCell _ _ _ _ hbA]
    exact (hg2.block b (by simp; omega) (fun e => hbv e.symm)).trans ((ha.block b (by omega) (by simp)).trans (h1.block b hb (by simpa using hbF)))

/-- An owned row cut back to nothing is owned. -/
theorem own_cut {w : World} {x : Option Addr} {n c : Nat} {xs : List Value} (h : w.ownsRow 0 70 2 (.slice x n c) n xs) : w.ownsRow 0 70 2 (.slice x 0 c) 0 [] := by
  rcases h.2 with ⟨e, h0⟩ | ⟨g, cap, cur, e, h1, h2, h3, h4, h5, h6⟩
  · simp only [Value.slice.injEq] at e
    obtain ⟨rfl, _, rfl⟩ := e
    exact World.ownsRow_nil _ _ _ _
  · simp only [Value.slice.injEq] at e
    obtain ⟨rfl, _, rfl⟩ := e
    exact ⟨by simp, .inr ⟨g, c, cur, rfl, h1, h2, Nat.zero_le _, h4, h5, by simp⟩⟩

theorem own_block (x : Option Addr) (n m c : Nat) : (Value.slice x n c).ownBlock = (Value.slice x m c).ownBlock := by cases x <;> rfl

theorem own_form {w : World} {x : Option Addr} {n c : Nat} {xs : List Value} (h : w.ownsRow 0 70 2 (.slice x n c) n xs) : (x = none ∧ n = 0 ∧ c = 0) ∨ ∃ g, x = some ⟨g, 0, none⟩ ∧ n ≤ c ∧ c ≤ maxLen := by
  rcases h.2 with ⟨e, h0⟩ | ⟨g, cap, cur, e, h1, h2, h3, h4, h5, h6⟩
  · simp only [Value.slice.injEq] at e
    exact .inl e
  · simp only [Value.slice.injEq] at e
    obtain ⟨rfl, _, rfl⟩ := e
    exact .inr ⟨g, rfl, h3, h4⟩

theorem wrap_small {q ns : Nat} (hns : ns ≤ 65536) (hq : q < ns) : wrap64 (q : Int) = (q : Int) := by
  unfold wrap64; omega

theorem two_one (m ops : Int) : ∀ u ∈ ([.int .i64 m, .int .i64 ops] : List Value), u.oneCell' = true := by
  intro u hu
  simp at hu
  rcases hu with rfl | rfl <;> rfl

theorem raise_no (R A nr F ns : Nat) (ops col : Int) (vs : List Value) (i : Nat) (x : Option Addr) (n c : Nat) (m : Int) (S : List (Int × Int)) (w : World) (hR : Blk w R (recCells A nr F ns ops col) 66) (hA : Blk w A vs 68) (hi : i < nr) (hv : vs[i]? = some (.slice x n c)) (hn : n ≤ maxLen) (HL : Hid (n = S.length)) (hS : SRow w x S) (hm : m ≤ topOf S) :
    Calls Try.prog 34 #[.pointer (some ⟨R, 0, none⟩), .int .i64 i, .int .i64 m] w fun e w' => (∃ u, e = .returned u) ∧ w' = w := by
  go_enter Try.func34, Try.ntmps34
  go_wp2_with fail
  refine (top37_any R A nr F ns ops col vs i x n c S w hR hA hi hv hn HL hS).mono ?_
  rintro e w' ⟨rfl, rfl⟩
  generalize topOf S = t at hm
  go_wp2
  (try simp only [Exit.inBlock, Exit.then])
  refine bodyPost_ret (results_none rfl _ _ _) rfl ?_
  exact ⟨⟨_, rfl⟩, rfl⟩

end Go.Proofs.Qxb6617269a
