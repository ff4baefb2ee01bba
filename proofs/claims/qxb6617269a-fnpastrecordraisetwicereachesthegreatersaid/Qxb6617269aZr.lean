/-
  ZZPastRecordRaise (function 26).
-/
import Derived.Test.Qxb6617269aRaiseA
import Derived.Test.Qxb6617269aMat
namespace Go.Proofs.Qxb6617269a
open Go.RowKit
set_option linter.unusedVariables false

theorem Try.info68 : (Try.prog.info? 68).map (fun i => (i.zero, i.size, i.bytes)) = some (some (.slice none 0 0), 1, 24) := by kernel_rfl
theorem Try.info72 : (Try.prog.info? 72).map (fun i => (i.zero, i.size, i.bytes)) = some (some (.agg #[.bool false, .int .i64 0, .slice none 0 0, .int .i64 0, .int .i64 0, .slice none 0 0]), 6, 80) := by kernel_rfl
theorem Try.info42 : (Try.prog.info? 42).map (fun i => (i.zero, i.size, i.bytes)) = some (some (.slice none 0 0), 1, 24) := by kernel_rfl
theorem Try.info49 : (Try.prog.info? 49).map (fun i => (i.zero, i.size, i.bytes)) = some (some (.agg #[.int .i64 0, .int .i64 0]), 2, 16) := by kernel_rfl

def Post26 (nr ns : Nat) (Ts' : List (List (Int × Int))) (rs' : List (Bool × Int)) (w : World) (e : Ending) (w' : World) : Prop :=
  ∃ O G, e = .returned (.tuple #[.slice (some ⟨O, 0, none⟩) nr nr, .slice (some ⟨G, 0, none⟩) ns ns]) ∧ In w' (some ⟨O, 0, none⟩) Ts' ∧ GIn w' (some ⟨G, 0, none⟩) (rs'.map Prod.snd) ∧ Below w.heap.size w w'

theorem made_nils (n : Nat) : (madeCells (Value.slice none 0 0).cells (n * 1)).toList = List.replicate n (Value.slice none 0 0) := by
  apply List.ext_getElem
  · rw [size_made]; simp
  · intro j h1 h2
    simp [madeCells, Value.cells, Nat.mod_one]

theorem made_src (n : Nat) : (madeCells (Value.agg #[.bool false, .int .i64 0, .slice none 0 0, .int .i64 0, .int .i64 0, .slice none 0 0]).cells (n * 6)).toList = flatR (List.replicate n (false, 0)) := by
  apply List.ext_getElem?
  intro j
  by_cases hj : j < n * 6
  · rw [flatR_rep _ n j hj]
    have h6 : j % 6 < 6 := Nat.mod_lt _ (by omega)
    simp [madeCells, hj, Value.cells, srcCells]
    generalize j % 6 = r at h6
    match r, h6 with
    | 0, _ => rfl
    | 1, _ => rfl
    | 2, _ => rfl
    | 3, _ => rfl
    | 4, _ => rfl
    | 5, _ => rfl
  · rw [List.getElem?_eq_none (by rw [size_made]; omega), List.getElem?_eq_none (by rw [flatR_len]; simp; omega)]

theorem cmp_nil42 (n c : Nat) (w : World) : Sem.run Try.prog (binOp BinOp.neq 42 (.slice none n c) (.slice none 0 0)) w = .ok (.bool false) w := by
  go_simp; try rfl
theorem cmp_some42 (a : Addr) (n c : Nat) (w : World) : Sem.run Try.prog (binOp BinOp.neq 42 (.slice (some a) n c) (.slice none 0 0)) w = .ok (.bool true) w := by
  go_simp; try rfl
theorem cmp_nil68 (n c : Nat) (w : World) : Sem.run Try.prog (binOp BinOp.neq 68 (.slice none n c) (.slice none 0 0)) w = .ok (.bool false) w := by
  go_simp; try rfl
theorem cmp_some68 (a : Addr) (n c : Nat) (w : World) : Sem.run Try.prog (binOp BinOp.neq 68 (.slice (some a) n c) (.slice none 0 0)) w = .ok (.bool true) w := by
  go_simp; try rfl
theorem cmp_not42 {x : Option Addr} (h : ¬ x = none) (n c : Nat) (w : World) : Sem.run Try.prog (binOp BinOp.neq 42 (.slice x n c) (.slice none 0 0)) w = .ok (.bool true) w := by
  cases x with
  | none => exact absurd rfl h
  | some a => exact cmp_some42 a n c w
theorem cmp_not68 {x : Option Addr} (h : ¬ x = none) (n c : Nat) (w : World) : Sem.run Try.prog (binOp BinOp.neq 68 (.slice x n c) (.slice none 0 0)) w = .ok (.bool true) w := by
  cases x with
  | none => exact absurd rfl h
  | some a => exact cmp_some68 a n c w

theorem blk_new (w : World) (cs : List Value) (e : TypeId) : Blk (w.alloc (Obj.cells cs.toArray e)) w.heap.size cs e := heap_alloc_new w _

/-- The record's cells ahead of its sources. -/
def recA (A nr : Nat) (ops col : Int) : List Value := [.slice (some ⟨A, 0, none⟩) nr nr, .int .i64 ops, .int .i64 0, .int .i64 0, .int .i64 col, .slice none 0 0, .slice none 0 0]

/-- The first loop's state. -/
def L1 (w : World) (N nr : Nat) (ops col : Int) (Ts : List (List (Int × Int))) (k : Nat) (wr : World) : Prop :=
  ∃ vs, Blk wr N (recA (N + 1) nr ops col) 66 ∧ Blk wr (N + 1) vs 68 ∧ Owns wr (N + 2) vs Ts k ∧ Below N w wr

theorem upRec_len (T : List (Int × Int)) (rs : List (Bool × Int)) (col : Int) (i : Nat) (ops m : Int) : (upRec T rs col i ops m).1.length ≤ T.length + 1 := by
  unfold upRec
  split
  · simp
  · split
    · simp
    · split <;> simp

theorem upRec_rlen (T : List (Int × Int)) (rs : List (Bool × Int)) (col : Int) (i : Nat) (ops m : Int) : (upRec T rs col i ops m).2.length = rs.length := by
  unfold upRec
  split
  · rfl
  · split
    · simp [upTo]
    · split <;> simp

theorem grown_fresh {W wq : World} {r : Option Nat} {F j : Nat} {v : Value} (h : W.grownBy wq r) (hF : W.heap.size ≤ F) : W.grownBy (wq.setCell ⟨F, j, none⟩ v) r :=
  ⟨h.os, h.tape, h.output, by simpa [World.setCell] using h.size, fun b hb hne => by rw [Below.heap_setCell _ _ _ _ (by show b ≠ F; omega)]; exact h.block b hb hne⟩

theorem grown_drew {W wq : World} {r : Option Nat} (h : W.grownBy wq r) : W.grownBy wq.drew r := ⟨h.os, h.tape, h.output, h.size, h.block⟩

theorem below_grown {N : Nat} {w W wq : World} (h : Below N w W) (hg : W.grownBy wq (some N)) (hN : N ≤ W.heap.size) : Below N w wq :=
  h.trans ⟨hg.os, hg.tape, hg.output, hg.size, fun b hb => hg.block b (by omega) (by simp; omega)⟩

theorem Owns.kept {w w' : World} {B N : Nat} {vs : List Value} {Ts : List (List (Int × Int))} {k : Nat} (h : Owns w B vs Ts k) (hg : w.grownBy w' (some N)) (hN : N < B) : Owns w' B vs Ts k := by
  refine ⟨h.1, ?_, h.2.2⟩
  intro j T hj hT
  obtain ⟨x, n, c, h1, h2, h3⟩ := h.2.1 j T hj hT
  refine ⟨x, n, c, h1, h2, h3.kept hg (.inr ?_)⟩
  intro e'
  have := (World.ownsRow.lt h3 _ e').1
  omega

theorem own_zero {w : World} {B : Nat} {v : Value} {n : Nat} {xs : List Value} (h3 : w.ownsRow B 70 2 v n xs) : w.ownsRow 0 70 2 v n xs := by
  refine ⟨h3.1, ?_⟩
  rcases h3.2 with h | ⟨g, cap, cur, e1, e2, e3⟩
  · exact .inl h
  · exact .inr ⟨g, cap, cur, e1, Nat.zero_le _, e3⟩

/-- The third loop's state: the sources as far as place k. -/
def L3 (W : World) (N nr ns : Nat) (ops col : Int) (rs : List (Bool × Int)) (k : Nat) (wq : World) : Prop :=
  Blk wq N (recCells (N + 1) nr W.heap.size ns ops col) 66 ∧ Blk wq W.heap.size (flatR (fillR rs k)) 72 ∧ W.grownBy wq (some N)

/-- The fourth loop's state. -/
def L4 (W2 : World) (Ts : List (List (Int × Int))) (k : Nat) (wq : World) : Prop :=
  ∃ os, Blk wq W2.heap.size os 42 ∧ Outs wq W2.heap.size os Ts k ∧ Below W2.heap.size W2 wq

set_option maxRecDepth 100000 in
set_option maxHeartbeats 4000000 in
theorem zraise_any (a ar ag : Option Addr) (nr ns k1 k2 k3 : Nat) (ops col : Int) (i : Nat) (m : Int) (Ts : List (List (Int × Int))) (rs : List (Bool × Int)) (T : List (Int × Int)) (w : World) (hnr : nr ≤ 8192) (hns : ns ≤ 16384) (HT : Hid (nr = Ts.length)) (HR : Hid (ns = rs.length))
    (hI : In w a Ts) (hB : BIn w ar (rs.map Prod.fst)) (hG : GIn w ag (rs.map Prod.snd)) (hl : ∀ T ∈ Ts, T.length ≤ 65530) (hi : i < nr) (hTi : Ts[i]? = some T) (HC : Hid (col = 0 ∨ (0 < col ∧ i / col.toNat < ns))) :
    Calls Try.prog 26 #[.slice a nr k1, .int .i64 ops, .int .i64 col, .slice ar ns k2, .slice ag ns k3, .int .i64 i, .int .i64 m] w fun e w' => Post26 nr ns (Ts.set i (upRec T rs col i ops m).1) (upRec T rs col i ops m).2 w e w' := by
  obtain ⟨i8, hi8, hx0, hx1, hx2⟩ := info_parts Try.info68
  obtain ⟨i0, hi0, hz0, hz1, hz2⟩ := info_parts Try.info70
  go_enter Try.func26, Try.ntmps26
  go_upto_region 3 with (first | (at_make; refine wpList_make_blk rfl _ _ 62 rfl 68 i8 _ Try.underlying62 hi8 hx0 nr nr rfl rfl (Nat.le_refl _) (by rw [hx2]; omega) (by unfold maxLen; omega) ?_; intro w1 hB1 hs1 hb1; have hR1 : Blk w1 w.heap.size [.slice none 0 0, .int .i64 ops, .int .i64 0, .int .i64 0, .int .i64 col, .slice none 0 0, .slice none 0 0] 66 := (blk_new w _ 66).keep hb1 (by simp); have q0 : w1.cell? ⟨w.heap.size, 0, none⟩ = some (.slice none 0 0) := (by rw [hR1.cell]; rfl); have z0 := hR1.frozen 0))
  obtain ⟨N, hN⟩ : ∃ N, N = w.heap.size := ⟨_, rfl⟩
  have HL1 : L1 w N nr ops col Ts 0 (w1.setCell ⟨N, 0, none⟩ (.slice (some ⟨N + 1, 0, none⟩) nr nr)) := by
    subst hN
    rw [hx1, made_nils] at hB1
    simp only [World.size_alloc] at hB1 hs1 hb1
    refine ⟨List.replicate nr (.slice none 0 0), hR1.set 0 _, hB1.set_ne (by omega) _ _, Owns.zero (n := 0) (by rw [HT.out]), ?_⟩
    exact (((Below.refl _ w).alloc (Nat.le_refl _) _).trans (hb1.mono (by omega))).setCell (Nat.le_refl _) _
  rw [← hN]
  have HN : Hid (N = w.heap.size) := hN
  clear hB1 hs1 hb1 hR1 q0 z0 hN
  obtain ⟨W1, hW1⟩ : ∃ W, W = w1.setCell ⟨N, 0, none⟩ (.slice (some ⟨N + 1, 0, none⟩) nr nr) := ⟨_, rfl⟩
  rw [← hW1] at HL1 ⊢
  clear hW1
  go_wp2_with fail
  go_loopw [39] (fun j wr => ∃ k : Nat, k ≤ nr ∧ j = .int .i64 k ∧ L1 w N nr ops col Ts k wr) (fun j _ => nr - (intOf j).toNat)
  case atStart => exact ⟨0, Nat.zero_le _, rfl, HL1⟩
  case round =>
  clear HL1
  obtain ⟨k, hk, rfl, hL⟩ := hrel
  by_cases hlt : k < nr
  case pos => as_aux_lemma =>
    obtain ⟨vs, hRr, hAr, hO, hbw⟩ := hL
    obtain ⟨W, e⟩ : ∃ W, W = wr := ⟨_, rfl⟩
    subst e
    obtain ⟨Tk, hTk⟩ : ∃ Tk, Ts[k]? = some Tk := ⟨Ts[k]'(by have := HT.out; omega), by simp⟩
    obtain ⟨b, off, x, n, c, rfl, cc, hn, hx, hS⟩ := (hI.keep (by rw [← HN.out]; exact hbw)) k Tk hTk
    have hbl := cell_lt cc
    have hlt' : (k : Int) < (nr : Int) := by omega
    have hn6 : n ≤ 65536 := by rw [hn.out]; have := hl Tk (List.mem_of_getElem? hTk); omega
    by_cases hxx : x = none
    · obtain ⟨rfl, rfl⟩ := hx hxx
      have hcmp : ∀ wx, Sem.run Try.prog (binOp BinOp.neq 42 (.slice x 0 0) (.slice none 0 0)) wx = .ok (.bool false) wx := fun wx => by rw [hxx]; exact cmp_nil42 _ _ _
      have e : Tk = [] := List.eq_nil_of_length_eq_zero hn.out.symm
      subst e
      have hL2 : L1 w N nr ops col Ts (k + 1) W := ⟨vs, hRr, hAr, hO.nil hTk, hbw⟩
      clear hRr hAr hO hbw hS hl hI hB hG hTi hTk hx hxx
      go_wp2
      go_roundw
      case rel => exact ⟨k + 1, by omega, by go_num, hL2⟩
      case measure => simp [intOf]; omega
    · have hcmp : ∀ wx, Sem.run Try.prog (binOp BinOp.neq 42 (.slice x n c) (.slice none 0 0)) wx = .ok (.bool true) wx := fun wx => cmp_not42 hxx _ _ _
      have hRc0 : W.cell? ⟨N, 0, none⟩ = some (.slice (some ⟨N + 1, 0, none⟩) nr nr) := by rw [hRr.cell]; rfl
      have hNs := hAr.lt
      go_upto_region 8 with (first | (at_make; refine wpList_make_blk rfl _ _ 68 rfl 70 i0 _ Try.underlying68 hi0 hz0 n n rfl rfl (Nat.le_refl _) (by rw [hz2]; omega) (by unfold maxLen; omega) ?_; intro w2 hB2 hs2 hb2))
      have hlen : (madeCells (Value.agg #[.int .i64 0, .int .i64 0]).cells (n * i0.size)).toList.length = (flatS Tk).length := by rw [size_made, hz1, flatS_len, ← hn.out]
      generalize (madeCells (Value.agg #[.int .i64 0, .int .i64 0]).cells (n * i0.size)).toList = zs at hlen hB2
      have hF0 := Fil.zero hlen
      have cc2 : w2.cell? ⟨b, off + k, none⟩ = some (.slice x n c) := by rw [hb2.cell (cell_lt cc)]; exact cc
      go_wp2_with fail
      go_loopw [58] (fun j wq => ∃ (l : Nat) (cs : List Value), l ≤ n ∧ j = .int .i64 l ∧ Blk wq W.heap.size cs 70 ∧ Fil cs (flatS Tk) (l * 2) ∧ Below W.heap.size W wq) (fun j _ => n - (intOf j).toNat)
      case atStart => exact ⟨0, zs, Nat.zero_le _, rfl, hB2, by simpa using hF0, hb2⟩
      case round =>
      clear hB2 hF0 hlen
      obtain ⟨l, cs, hl2, rfl, hBq, hFq, hbq⟩ := hrel
      obtain ⟨V, e⟩ : ∃ V, V = wr := ⟨_, rfl⟩
      subst e
      have ccq : V.cell? ⟨b, off + k, none⟩ = some (.slice x n c) := by rw [hbq.cell (cell_lt cc)]; exact cc
      by_cases hln : l < n
      case pos => as_aux_lemma =>
        obtain ⟨p, hp⟩ : ∃ p, Tk[l]? = some p := ⟨Tk[l]'(by have := hn.out; omega), by simp⟩
        have hln' : (l : Int) < (n : Int) := by omega
        obtain ⟨b2, off2, rfl, c0, c1⟩ := (hS.keep hbq) l p hp
        have hlc := hFq.1
        rw [flatS_len, ← hn.out] at hlc
        obtain ⟨x0, q0⟩ : ∃ x, V.cell? ⟨W.heap.size, l * 2, none⟩ = some x := ⟨cs[l * 2]'(by omega), by rw [hBq.cell]; simp⟩
        obtain ⟨x1, q1⟩ : ∃ x, V.cell? ⟨W.heap.size, l * 2 + 1, none⟩ = some x := ⟨cs[l * 2 + 1]'(by omega), by rw [hBq.cell]; simp⟩
        have z0 := hBq.frozen (l * 2)
        have z1 := hBq.frozen (l * 2 + 1)
        obtain ⟨t0, t1⟩ := flatS_at hp
        have F2 := (hFq.set t0).set t1
        clear t0 t1 hp hS hI hB hG hTi hTk hl hx hxx cc cc2 hO hAr hRr hbw hFq
        go_wp2
        go_region
        go_wp2
        go_roundw
        case rel => exact ⟨l + 1, _, by omega, by go_num, (hBq.set _ _).set _ _, by rw [Nat.succ_mul]; exact F2, ((hbq.setCell (p := ⟨W.heap.size, l * 2, none⟩) (Nat.le_refl _) _).setCell (p := ⟨W.heap.size, l * 2 + 1, none⟩) (Nat.le_refl _) _).drew⟩
        case measure => simp [intOf]; omega
      case neg => as_aux_lemma =>
        have hcs : cs = flatS Tk := hFq.done (by rw [flatS_len, ← hn.out]; omega)
        subst hcs
        have hNl : N < W.heap.size := by omega
        have hRv : Blk V N (recA (N + 1) nr ops col) 66 := hRr.keep hbq hNl
        have hAv : Blk V (N + 1) vs 68 := hAr.keep hbq hNs
        have rv0 : V.cell? ⟨N, 0, none⟩ = some (.slice (some ⟨N + 1, 0, none⟩) nr nr) := by rw [hRv.cell]; rfl
        obtain ⟨av, qa⟩ : ∃ u, V.cell? ⟨N + 1, k, none⟩ = some u := ⟨vs[k]'(by have := hO.1; have := HT.out; omega), by rw [hAv.cell]; simp⟩
        have za := hAv.frozen k
        have hg : W.grownBy (V.setCell ⟨N + 1, k, none⟩ (.slice (some ⟨W.heap.size, 0, none⟩) n n)) (some (N + 1)) := by
          have h1 : W.grownBy V (some (N + 1)) := ⟨hbq.os, hbq.tape, hbq.output, hbq.size, fun b hb _ => hbq.block b hb⟩
          exact h1.trans (grown_setCell _ _ _ _)
        have hL2 : L1 w N nr ops col Ts (k + 1) (V.setCell ⟨N + 1, k, none⟩ (.slice (some ⟨W.heap.size, 0, none⟩) n n)) := by
          refine ⟨_, hRv.set_ne (by omega) _ _, hAv.set k _, hO.put hTk hg (by omega) (by omega) rfl (hBq.set_ne (by omega) _ _) hn hn6, ?_⟩
          exact ((hbw.trans (hbq.mono (by omega))).setCell (by show N ≤ N + 1; omega) _)
        clear hRr hAr hO hbw hS hl hI hB hG hTi hTk hx hxx cc cc2 hRv hAv hg hBq hFq hbq
        go_wp2
        go_roundw
        case rel => exact ⟨k + 1, by omega, by go_num, hL2⟩
        case measure => simp [intOf]; omega
  case neg => as_aux_lemma =>
    have kn : k = nr := by omega
    subst kn
    obtain ⟨vs, hRr, hAr, hO, hbw⟩ := hL
    obtain ⟨W, e⟩ : ∃ W, W = wr := ⟨_, rfl⟩
    subst e
    have hNs := hAr.lt
    obtain ⟨i7, hi7, hv0, hv1, hv2⟩ := info_parts Try.info72
    go_upto_region 16 with (first | (at_make; refine wpList_make_blk rfl _ _ 63 rfl 72 i7 _ Try.underlying63 hi7 hv0 ns ns rfl rfl (Nat.le_refl _) (by rw [hv2]; omega) (by unfold maxLen; omega) ?_; intro w3 hB3 hs3 hb3; have hR3 : Blk w3 N (recA (N + 1) k ops col) 66 := hRr.keep hb3 (by omega); have q5 : w3.cell? ⟨N, 5, none⟩ = some (.slice none 0 0) := (by rw [hR3.cell]; rfl); have z5 := hR3.frozen 5))
    have HL3 : L3 W N k ns ops col rs 0 (w3.setCell ⟨N, 5, none⟩ (.slice (some ⟨W.heap.size, 0, none⟩) ns ns)) := by
      rw [hv1, made_src, HR.out, ← fillR_zero] at hB3
      refine ⟨hR3.set 5 _, hB3.set_ne (by omega) _ _, ?_⟩
      have h1 : W.grownBy w3 (some N) := ⟨hb3.os, hb3.tape, hb3.output, hb3.size, fun b hb _ => hb3.block b hb⟩
      exact h1.trans (grown_setCell _ _ _ _)
    clear hB3 hs3 hb3 hR3 q5 z5
    obtain ⟨W3, hW3⟩ : ∃ W', W' = w3.setCell ⟨N, 5, none⟩ (.slice (some ⟨W.heap.size, 0, none⟩) ns ns) := ⟨_, rfl⟩
    rw [← hW3] at HL3 ⊢
    clear hW3
    go_wp2_with fail
    go_loopw [98] (fun j wq => ∃ l : Nat, l ≤ ns ∧ j = .int .i64 l ∧ L3 W N k ns ops col rs l wq) (fun j _ => ns - (intOf j).toNat)
    case atStart => exact ⟨0, Nat.zero_le _, rfl, HL3⟩
    case round =>
    clear HL3
    obtain ⟨l, hls, rfl, hL⟩ := hrel
    obtain ⟨V, e⟩ : ∃ V, V = wr := ⟨_, rfl⟩
    subst e
    obtain ⟨hRq, hFq, hgq⟩ := hL
    have hbq := below_grown hbw hgq (by omega)
    by_cases hln : l < ns
    case pos => as_aux_lemma =>
      obtain ⟨s, hs⟩ : ∃ s, rs[l]? = some s := ⟨rs[l]'(by have := HR.out; omega), by simp⟩
      obtain ⟨b1, o1, rfl, d1⟩ := (hB.keep (by rw [← HN.out]; exact hbq)) l s.1 (by rw [List.getElem?_map, hs]; rfl)
      obtain ⟨b2, o2, rfl, d2⟩ := (hG.keep (by rw [← HN.out]; exact hbq)) l s.2 (by rw [List.getElem?_map, hs]; rfl)
      obtain ⟨_, _, e1, f1⟩ := hB l s.1 (by rw [List.getElem?_map, hs]; rfl)
      obtain ⟨_, _, e2, f2⟩ := hG l s.2 (by rw [List.getElem?_map, hs]; rfl)
      cases e1
      cases e2
      have hl1 : b1 < N := by rw [HN.out]; exact cell_lt f1
      have hl2 : b2 < N := by rw [HN.out]; exact cell_lt f2
      clear f1 f2
      have hfa := fillR_at (rs := rs) (k := l) (by have := HR.out; omega)
      obtain ⟨u0, u3⟩ := flatR_at hfa
      have r5 : V.cell? ⟨N, 5, none⟩ = some (.slice (some ⟨W.heap.size, 0, none⟩) ns ns) := by rw [hRq.cell]; rfl
      have q0 : V.cell? ⟨W.heap.size, l * 6, none⟩ = some (.bool false) := by rw [hFq.cell]; exact u0
      have z0 := hFq.frozen (l * 6)
      have hF1 := hFq.set (l * 6) (.bool s.1)
      rw [flatR_set0 _ hfa] at hF1
      have hfa1 : ((fillR rs l).set l (s.1, 0))[l]? = some (s.1, 0) := List.getElem?_set_self (List.getElem?_eq_some_iff.1 hfa).1
      obtain ⟨u0', u3'⟩ := flatR_at hfa1
      have q3 : (V.setCell ⟨W.heap.size, l * 6, none⟩ (.bool s.1)).cell? ⟨W.heap.size, l * 6 + 3, none⟩ = some (.int .i64 0) := by rw [hF1.cell]; exact u3'
      have z3 := hF1.frozen (l * 6 + 3)
      have d2' : (V.setCell ⟨W.heap.size, l * 6, none⟩ (.bool s.1)).cell? ⟨b2, o2 + l, none⟩ = some (.int .i64 s.2) := (grown_setCell _ _ _ _).cell d2 (by simp; omega)
      have r5' : (V.setCell ⟨W.heap.size, l * 6, none⟩ (.bool s.1)).cell? ⟨N, 5, none⟩ = some (.slice (some ⟨W.heap.size, 0, none⟩) ns ns) := (grown_setCell _ _ _ _).cell r5 (by simp; omega)
      have hF2 := hF1.set (l * 6 + 3) (.int .i64 s.2)
      rw [flatR_set _ hfa1] at hF2
      have hset : ((fillR rs l).set l (s.1, 0)).set l (s.1, s.2) = fillR rs (l + 1) := by rw [List.set_set]; exact fillR_step hs
      have hset' : ((fillR rs l).set l (s.1, 0)).set l ((s.1, (0 : Int)).1, s.2) = fillR rs (l + 1) := hset
      rw [hset'] at hF2
      have hL2 : L3 W N k ns ops col rs (l + 1) (((V.setCell ⟨W.heap.size, l * 6, none⟩ (.bool s.1)).setCell ⟨W.heap.size, l * 6 + 3, none⟩ (.int .i64 s.2))) :=
        ⟨(hRq.set_ne (by omega) _ _).set_ne (by omega) _ _, hF2, grown_fresh (grown_fresh hgq (Nat.le_refl _)) (Nat.le_refl _)⟩
      have hL3 : L3 W N k ns ops col rs (l + 1) ((((V.setCell ⟨W.heap.size, l * 6, none⟩ (.bool s.1)).setCell ⟨W.heap.size, l * 6 + 3, none⟩ (.int .i64 s.2))).drewN 2) := ⟨hL2.1, hL2.2.1, hL2.2.2.os, hL2.2.2.tape, hL2.2.2.output, hL2.2.2.size, hL2.2.2.block⟩
      have hln' : (l : Int) < (ns : Int) := by omega
      obtain ⟨s1, s2⟩ := s
      simp only at *
      clear hs hfa hfa1 u0 u3 u0' u3' hF1 hF2 hset hset' hL2 hRq hFq hgq hbq hbw hO hAr hRr hI hB hG hl hTi hi
      go_wp2
      go_region
      go_wp2
      go_region
      go_wp2
      go_roundw
      case rel => exact ⟨l + 1, by omega, by go_num, hL3⟩
      case measure => simp [intOf]; omega
    case neg => as_aux_lemma =>
      have ln : l = ns := by omega
      subst ln
      have hall : fillR rs l = rs := by rw [HR.out]; exact fillR_all rs
      rw [hall] at hFq
      have hOq : Owns V (N + 2) vs Ts k := hO.kept hgq (by omega)
      have hAq : Blk V (N + 1) vs 68 := (hgq.block (N + 1) hNs (by simp)).trans hAr
      obtain ⟨x, n, c, hvi, hn, hown⟩ := hOq.2.1 i T hi hTi
      have hn6 : n ≤ 65536 := by rw [hn.out]; have := hl T (List.mem_of_getElem? hTi); omega
      have hob := fun b (e : (Value.slice x n c).ownBlock = some b) => World.ownsRow.lt hown b e
      have hsW := fun (j : Nat) (v : Value) (b : Nat) (h1 : vs[j]? = some v) (h2 : v.ownBlock = some b) => hO.lt h1 h2
      clear hall hRr hAr hB hG
      go_wp2_with fail
      refine (raise_any N (N + 1) k W.heap.size l ops col vs i x n c m T rs V hRq hAq hFq hi hvi hn (own_zero hown) (by omega) HR (by omega) (by omega) (by omega) (fun e => by have := (hob _ e).1; omega) (fun e => by have := (hob _ e).1; omega) (fun e => by have := (hsW i _ _ hvi e).2; omega) hn6 (by omega) HC.out).mono ?_
      rintro e W2 ⟨x', n', c', u, rfl, hR2, hA2, hF2, hn', hs', hx', f1, f2, f3, f4, f5⟩
      have hTl : k = Ts.length := HT.out
      have hI2 : In W2 (some ⟨N + 1, 0, none⟩) (Ts.set i (upRec T rs col i ops m).1) := by
        subst hTl
        exact Owns.after hOq hvi (by omega) (fun j v b h1 h2 => by have := (hsW j v b h1 h2).2; omega) f5 hA2 hn' hs' hx'
      have hbW : Below N w W2 := hbq.trans ⟨f1, f2, f3, f4, fun b hb => f5 b (by have := hbq.size; have := hgq.size; omega) (by omega) (by omega) (fun e => by have := (hob _ e).1; omega)⟩
      have hl2 : ∀ T' ∈ Ts.set i (upRec T rs col i ops m).1, T'.length ≤ 65536 := by
        intro T' hT'
        rcases List.mem_or_eq_of_mem_set hT' with h | h
        · have := hl T' h; omega
        · have := hl T (List.mem_of_getElem? hTi)
          have := upRec_len T rs col i ops m
          rw [h]; omega
      have hTl2 : Hid (k = (Ts.set i (upRec T rs col i ops m).1).length) := by show _ = _; rw [List.length_set]; exact hTl
      have hrl2 : Hid (l = (upRec T rs col i ops m).2.length) := by show _ = _; rw [upRec_rlen]; exact HR.out
      have hR20 : W2.cell? ⟨N, 0, none⟩ = some (.slice (some ⟨N + 1, 0, none⟩) k k) := by rw [hR2.cell]; rfl
      have hR25 : W2.cell? ⟨N, 5, none⟩ = some (.slice (some ⟨W.heap.size, 0, none⟩) l l) := by rw [hR2.cell]; rfl
      have hR2l := hR2.lt
      have hF2l := hF2.lt
      clear hRq hFq hgq hbq hOq hAq hown hob hsW hO hvi hn hn6 hR2 hA2 hs' hx' hn' f1 f2 f3 f4 f5 hI hl hTi hbw hTl
      obtain ⟨Ts2, hTs2⟩ : ∃ Ts2, Ts2 = Ts.set i (upRec T rs col i ops m).1 := ⟨_, rfl⟩
      obtain ⟨rs2, hrs2⟩ : ∃ rs2, rs2 = (upRec T rs col i ops m).2 := ⟨_, rfl⟩
      rw [← hTs2] at hI2 hl2 hTl2
      rw [← hrs2] at hF2 hrl2
      have HTs2 : Hid (Ts2 = Ts.set i (upRec T rs col i ops m).1) := hTs2
      have Hrs2 : Hid (rs2 = (upRec T rs col i ops m).2) := hrs2
      clear hTs2 hrs2
      obtain ⟨i4, hi4, hy0, hy1, hy2⟩ := info_parts Try.info42
      obtain ⟨i9, hi9, ha0, ha1, ha2⟩ := info_parts Try.info49
      go_upto_region 24 with (first | (at_make; refine wpList_make_blk rfl _ _ 39 rfl 42 i4 _ Try.underlying39 hi4 hy0 k k rfl rfl (Nat.le_refl _) (by rw [hy2]; omega) (by unfold maxLen; omega) ?_; intro w4 hB4 hs4 hb4))
      have HL4 : L4 W2 Ts2 0 w4 := by
        rw [hy1, made_nils] at hB4
        exact ⟨_, hB4, Outs.zero (by rw [hTl2.out]), hb4⟩
      have r40 : w4.cell? ⟨N, 0, none⟩ = some (.slice (some ⟨N + 1, 0, none⟩) k k) := by rw [hb4.cell hR2l]; exact hR20
      clear hB4 hs4 hb4
      go_wp2_with fail
      go_loopw [139] (fun j wq => ∃ y : Nat, y ≤ k ∧ j = .int .i64 y ∧ L4 W2 Ts2 y wq) (fun j _ => k - (intOf j).toNat)
      case atStart => exact ⟨0, Nat.zero_le _, rfl, HL4⟩
      case round =>
      clear HL4 r40
      obtain ⟨y, hyk, rfl, hL⟩ := hrel
      obtain ⟨U, e⟩ : ∃ U, U = wr := ⟨_, rfl⟩
      subst e
      obtain ⟨os, hBo, hOu, hbu⟩ := hL
      have r0 : U.cell? ⟨N, 0, none⟩ = some (.slice (some ⟨N + 1, 0, none⟩) k k) := by rw [hbu.cell hR2l]; exact hR20
      have r5 : U.cell? ⟨N, 5, none⟩ = some (.slice (some ⟨W.heap.size, 0, none⟩) l l) := by rw [hbu.cell hR2l]; exact hR25
      by_cases hyn : y < k
      case pos => as_aux_lemma =>
        obtain ⟨Tk, hTk⟩ : ∃ Tk, Ts2[y]? = some Tk := ⟨Ts2[y]'(by have := hTl2.out; omega), by simp⟩
        obtain ⟨b, off, x, n, c, e, cc, hn, hx, hS⟩ := (hI2.keep hbu) y Tk hTk
        cases e
        rw [Nat.zero_add] at cc
        have hyn' : (y : Int) < (k : Int) := by omega
        have hn6 : n ≤ 65536 := by rw [hn.out]; exact hl2 Tk (List.mem_of_getElem? hTk)
        clear hI2 hl2
        by_cases hxx : x = none
        · obtain ⟨rfl, rfl⟩ := hx hxx
          have hcmp : ∀ wx, Sem.run Try.prog (binOp BinOp.neq 68 (.slice x 0 0) (.slice none 0 0)) wx = .ok (.bool false) wx := fun wx => by rw [hxx]; exact cmp_nil68 _ _ _
          have e : Tk = [] := List.eq_nil_of_length_eq_zero hn.out.symm
          subst e
          have hLn : L4 W2 Ts2 (y + 1) U := ⟨os, hBo, hOu.nil hTk, hbu⟩
          clear hBo hOu hbu hS hTk hx hxx hF2
          go_wp2
          go_roundw
          case rel => exact ⟨y + 1, by omega, by go_num, hLn⟩
          case measure => simp [intOf]; omega
        · have hcmp : ∀ wx, Sem.run Try.prog (binOp BinOp.neq 68 (.slice x n c) (.slice none 0 0)) wx = .ok (.bool true) wx := fun wx => cmp_not68 hxx _ _ _
          have hOl := hBo.lt
          have hUl : N < U.heap.size := by have := hbu.size; omega
          go_upto_region 29 with (first | (at_make; refine wpList_make_blk rfl _ _ 42 rfl 49 i9 _ Try.underlying42 hi9 ha0 n n rfl rfl (Nat.le_refl _) (by rw [ha2]; omega) (by unfold maxLen; omega) ?_; intro w5 hB5 hs5 hb5))
          have hlen : (madeCells (Value.agg #[.int .i64 0, .int .i64 0]).cells (n * i9.size)).toList.length = (flatS Tk).length := by rw [size_made, ha1, flatS_len, ← hn.out]
          generalize (madeCells (Value.agg #[.int .i64 0, .int .i64 0]).cells (n * i9.size)).toList = zs at hlen hB5
          have hF0 := Fil.zero hlen
          have cc5 : w5.cell? ⟨N + 1, y, none⟩ = some (.slice x n c) := by rw [hb5.cell (cell_lt cc)]; exact cc
          have r05 : w5.cell? ⟨N, 0, none⟩ = some (.slice (some ⟨N + 1, 0, none⟩) k k) := by rw [hb5.cell hUl]; exact r0
          go_wp2_with fail
          go_loopw [167] (fun j wq => ∃ (v : Nat) (cs : List Value), v ≤ n ∧ j = .int .i64 v ∧ Blk wq U.heap.size cs 49 ∧ Fil cs (flatS Tk) (v * 2) ∧ Below U.heap.size U wq) (fun j _ => n - (intOf j).toNat)
          case atStart => exact ⟨0, zs, Nat.zero_le _, rfl, hB5, by simpa using hF0, hb5⟩
          case round =>
          clear hB5 hF0 hlen
          obtain ⟨v, cs, hvn, rfl, hBq, hFq, hbq⟩ := hrel
          obtain ⟨X, e⟩ : ∃ X, X = wr := ⟨_, rfl⟩
          subst e
          have ccq : X.cell? ⟨N + 1, y, none⟩ = some (.slice x n c) := by rw [hbq.cell (cell_lt cc)]; exact cc
          have r0q : X.cell? ⟨N, 0, none⟩ = some (.slice (some ⟨N + 1, 0, none⟩) k k) := by rw [hbq.cell hUl]; exact r0
          by_cases hvl : v < n
          case pos => as_aux_lemma =>
            obtain ⟨p, hp⟩ : ∃ p, Tk[v]? = some p := ⟨Tk[v]'(by have := hn.out; omega), by simp⟩
            have hvl' : (v : Int) < (n : Int) := by omega
            obtain ⟨b2, off2, rfl, c0, c1⟩ := (hS.keep hbq) v p hp
            have hlc := hFq.1
            rw [flatS_len, ← hn.out] at hlc
            obtain ⟨x0, q0⟩ : ∃ x, X.cell? ⟨U.heap.size, v * 2, none⟩ = some x := ⟨cs[v * 2]'(by omega), by rw [hBq.cell]; simp⟩
            obtain ⟨x1, q1⟩ : ∃ x, X.cell? ⟨U.heap.size, v * 2 + 1, none⟩ = some x := ⟨cs[v * 2 + 1]'(by omega), by rw [hBq.cell]; simp⟩
            have z0 := hBq.frozen (v * 2)
            have z1 := hBq.frozen (v * 2 + 1)
            obtain ⟨t0, t1⟩ := flatS_at hp
            have F2 := (hFq.set t0).set t1
            clear t0 t1 hp hS hTk hx hxx cc cc5 r05 hBo hOu hbu hFq hF2
            go_wp2
            go_region
            go_wp2
            go_roundw
            case rel => exact ⟨v + 1, _, by omega, by go_num, (hBq.set _ _).set _ _, by rw [Nat.succ_mul]; exact F2, ((hbq.setCell (p := ⟨U.heap.size, v * 2, none⟩) (Nat.le_refl _) _).setCell (p := ⟨U.heap.size, v * 2 + 1, none⟩) (Nat.le_refl _) _).drew⟩
            case measure => simp [intOf]; omega
          case neg => as_aux_lemma =>
            have hcs : cs = flatS Tk := hFq.done (by rw [flatS_len, ← hn.out]; omega)
            subst hcs
            have hOv : Blk X W2.heap.size os 42 := hBo.keep hbq hOl
            obtain ⟨av, qa⟩ : ∃ u, X.cell? ⟨W2.heap.size, y, none⟩ = some u := ⟨os[y]'(by have := hOu.1; have := hTl2.out; omega), by rw [hOv.cell]; simp⟩
            have za := hOv.frozen y
            have hg : U.grownBy (X.setCell ⟨W2.heap.size, y, none⟩ (.slice (some ⟨U.heap.size, 0, none⟩) n n)) (some W2.heap.size) := by
              have h1 : U.grownBy X (some W2.heap.size) := ⟨hbq.os, hbq.tape, hbq.output, hbq.size, fun b hb _ => hbq.block b hb⟩
              exact h1.trans (grown_setCell _ _ _ _)
            have hLn : L4 W2 Ts2 (y + 1) (X.setCell ⟨W2.heap.size, y, none⟩ (.slice (some ⟨U.heap.size, 0, none⟩) n n)) := by
              refine ⟨_, hOv.set y _, hOu.put hTk hg (by omega) (hBq.set_ne (by omega) _ _) hn, ?_⟩
              exact ((hbu.trans (hbq.mono (by omega))).setCell (Nat.le_refl _) _)
            clear hBo hOu hbu hS hTk hx hxx cc cc5 r05 hOv hg hBq hFq hbq hF2
            go_wp2
            go_roundw
            case rel => exact ⟨y + 1, by omega, by go_num, hLn⟩
            case measure => simp [intOf]; omega
      case neg => as_aux_lemma =>
        have yk : y = k := by omega
        subst yk
        have hOl := hBo.lt
        have hUl : N < U.heap.size := by have := hbu.size; omega
        have hIo : In U (some ⟨W2.heap.size, 0, none⟩) Ts2 := Outs.done (by rw [← hTl2.out]; exact hOu) hBo
        have hFu : Blk U W.heap.size (flatR rs2) 72 := hF2.keep hbu hF2l
        have hbu2 : Below N w U := hbW.trans (hbu.mono (by omega))
        clear hBo hOu hI2 hF2 hbu hbW hl2
        obtain ⟨i3, hi3, hg0, hg1, hg2⟩ := info_parts Try.info3
        go_upto_region 37 with (first | (at_make; refine wpList_make_blk rfl _ _ 22 rfl 3 i3 _ Try.underlying22 hi3 hg0 l l rfl rfl (Nat.le_refl _) (by rw [hg2]; omega) (by unfold maxLen; omega) ?_; intro w6 hB6 hs6 hb6))
        have hlen : (madeCells (Value.int .i64 0).cells (l * i3.size)).toList.length = ((rs2.map Prod.snd).map (Value.int .i64)).length := by rw [size_made, hg1, List.length_map, List.length_map, ← hrl2.out]; omega
        generalize (madeCells (Value.int .i64 0).cells (l * i3.size)).toList = zs at hlen hB6
        have hF0 := Fil.zero hlen
        have r56 : w6.cell? ⟨N, 5, none⟩ = some (.slice (some ⟨W.heap.size, 0, none⟩) l l) := by rw [hb6.cell hUl]; exact r5
        have hFul := hFu.lt
        go_wp2_with fail
        go_loopw [213] (fun j wq => ∃ (v : Nat) (cs : List Value), v ≤ l ∧ j = .int .i64 v ∧ Blk wq U.heap.size cs 3 ∧ Fil cs ((rs2.map Prod.snd).map (Value.int .i64)) v ∧ Below U.heap.size U wq) (fun j _ => l - (intOf j).toNat)
        case atStart => exact ⟨0, zs, Nat.zero_le _, rfl, hB6, hF0, hb6⟩
        case round =>
        clear hB6 hF0 hlen r56 hb6 hs6
        obtain ⟨v, cs, hvn, rfl, hBq, hFq, hbq⟩ := hrel
        obtain ⟨X, e⟩ : ∃ X, X = wr := ⟨_, rfl⟩
        subst e
        by_cases hvl : v < l
        case pos => as_aux_lemma =>
          obtain ⟨s, hs⟩ : ∃ s, rs2[v]? = some s := ⟨rs2[v]'(by have := hrl2.out; omega), by simp⟩
          have hvl' : (v : Int) < (l : Int) := by omega
          have r5q : X.cell? ⟨N, 5, none⟩ = some (.slice (some ⟨W.heap.size, 0, none⟩) l l) := by rw [hbq.cell hUl]; exact r5
          have f3 : X.cell? ⟨W.heap.size, v * 6 + 3, none⟩ = some (.int .i64 s.2) := by rw [hbq.cell hFul, hFu.cell]; exact (flatR_at hs).2
          have hlc := hFq.1
          rw [List.length_map, List.length_map, ← hrl2.out] at hlc
          obtain ⟨x0, q0⟩ : ∃ x, X.cell? ⟨U.heap.size, v, none⟩ = some x := ⟨cs[v]'(by omega), by rw [hBq.cell]; simp⟩
          have z0 := hBq.frozen v
          have F1 := hFq.set (v := .int .i64 s.2) (by rw [List.getElem?_map, List.getElem?_map, hs]; rfl)
          clear hs hFq hFu hIo
          go_wp2
          go_roundw
          case rel => exact ⟨v + 1, _, by omega, by go_num, hBq.set _ _, F1, hbq.setCell (p := ⟨U.heap.size, v, none⟩) (Nat.le_refl _) _⟩
          case measure => simp [intOf]; omega
        case neg => as_aux_lemma =>
          have hcs : cs = (rs2.map Prod.snd).map (Value.int .i64) := hFq.done (by rw [List.length_map, List.length_map, ← hrl2.out]; omega)
          have hGo : GIn X (some ⟨U.heap.size, 0, none⟩) (rs2.map Prod.snd) := by
            intro j g hj
            exact ⟨_, _, rfl, by rw [Nat.zero_add, hBq.cell, hcs, List.getElem?_map, hj]; rfl⟩
          have hIX := hIo.keep hbq
          have hbX : Below w.heap.size w X := by rw [← HN.out]; exact hbu2.trans (hbq.mono (by omega))
          clear hcs hBq hFq hbq hIo hFu hbu2
          go_wp2
          go_ret2
          exact ⟨_, _, rfl, by rw [← HTs2.out]; exact hIX, by rw [← Hrs2.out]; exact hGo, hbX⟩

end Go.Proofs.Qxb6617269a
