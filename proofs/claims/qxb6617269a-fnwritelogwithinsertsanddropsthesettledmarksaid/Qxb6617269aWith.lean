import Derived.Test.Qxb6617269aPurge
namespace Go.Proofs.Qxb6617269a
open Go.RowKit

/-- The state of the loop in 'with': behind k entries O is laid; 'added': e is among them. -/
def WInv (e : Ent) (L O : List Ent) (k : Nat) (added : Bool) : Prop :=
  ins e L = O ++ (if added then L.drop k else ins e (L.drop k)) ∧ O.length = k + (if added then 1 else 0)

theorem WInv.start (e : Ent) (L : List Ent) : WInv e L [] 0 false := ⟨by simp, by simp⟩

theorem drop_cons {L : List Ent} {k : Nat} {f : Ent} (h : L[k]? = some f) : L.drop k = f :: L.drop (k + 1) := by
  have hk : k < L.length := (List.getElem?_eq_some_iff.1 h).1
  rw [List.drop_eq_getElem_cons hk, (List.getElem?_eq_some_iff.1 h).2]

theorem WInv.add {e f : Ent} {L O : List Ent} {k : Nat} (h : WInv e L O k false) (hf : L[k]? = some f) (hlt : e.site < f.site) : WInv e L (O ++ [e, f]) (k + 1) true := by
  obtain ⟨h1, h2⟩ := h
  refine ⟨?_, by simp at h2 ⊢; omega⟩
  simp only [Bool.false_eq_true, if_false, drop_cons hf] at h1
  rw [h1, ins, if_pos hlt]
  simp

theorem WInv.pass {e f : Ent} {L O : List Ent} {k : Nat} (h : WInv e L O k false) (hf : L[k]? = some f) (hlt : ¬ e.site < f.site) : WInv e L (O ++ [f]) (k + 1) false := by
  obtain ⟨h1, h2⟩ := h
  refine ⟨?_, by simp at h2 ⊢; omega⟩
  simp only [Bool.false_eq_true, if_false, drop_cons hf] at h1
  rw [h1, ins, if_neg hlt]
  simp

theorem WInv.on {e f : Ent} {L O : List Ent} {k : Nat} (h : WInv e L O k true) (hf : L[k]? = some f) : WInv e L (O ++ [f]) (k + 1) true := by
  obtain ⟨h1, h2⟩ := h
  refine ⟨?_, by simp at h2 ⊢; omega⟩
  simp only [if_true, drop_cons hf] at h1
  rw [h1]
  simp

/-- What an append of one entry at the end of the laid ones makes of the block's cells. -/
theorem flat_push {O : List Ent} {m : Nat} (hO : O.length = m) {e : Ent} {sp : List Value} :
    (flat O ++ sp).take (m * 4) ++ (e.cells ++ (flat O ++ sp).drop (m * 4 + e.cells.length)) = flat (O ++ [e]) ++ sp.drop 4 := by
  have l1 := flat_length O
  have hc : e.cells.length = 4 := rfl
  have e1 : m * 4 = (flat O).length := by omega
  rw [hc, e1, List.take_left, List.drop_length_add_append, flat_append]
  simp [flat]

theorem push_len {O : List Ent} {m N : Nat} {sp : List Value} {e : Ent} (hO : O.length = m) (h : (flat O ++ sp).length = N) (hm : 4 * (m + 1) ≤ N) : (flat (O ++ [e]) ++ sp.drop 4).length = N := by
  rw [List.length_append, flat_length] at h ⊢
  simp at h ⊢
  omega

theorem below_alloc2 {g : Nat} {w : World} (h : g ≤ w.heap.size) (o o' : Obj) : Below g w ((w.alloc o).alloc o') :=
  ((Below.refl g w).alloc h o).alloc (by simp; omega) o'

theorem Blk.at0 {w : World} {g : Nat} {e : Ent} (h : Blk w g e.cells 58) :
    w.cell? ⟨g, 0, none⟩ = some (.int .i64 e.site) ∧ w.cell? ⟨g, 1, none⟩ = some (.int .i64 e.ctr) ∧ w.cell? ⟨g, 2, none⟩ = some (.slice e.da e.dn e.dc) ∧ w.cell? ⟨g, 3, none⟩ = some (.int .i64 e.cr) :=
  ⟨h.cell 0, h.cell 1, h.cell 2, h.cell 3⟩

set_option maxRecDepth 100000 in
set_option maxHeartbeats 1000000 in
theorem with_any (gl n : Nat) (L : List Ent) (e : Ent) (w : World) (hn : n ≤ 1000000) (HL : Hid (n = L.length)) (hB : Blk w gl (flat L) 58) :
    Calls Try.prog 32 #[.slice (some ⟨gl, 0, none⟩) n n, .agg #[.int .i64 e.site, .int .i64 e.ctr, .slice e.da e.dn e.dc, .int .i64 e.cr]] w fun x w' =>
      ∃ sp', x = .returned (.slice (some ⟨w.heap.size + 1, 0, none⟩) (purge (ins e L)).length (n + 1)) ∧ Blk w' (w.heap.size + 1) (flat (purge (ins e L)) ++ sp') 58 ∧ Below w.heap.size w w' := by
  obtain ⟨i0, hi, hz0, hz1, hz2⟩ := info_parts Try.info58
  have hgl := hB.lt
  go_enter Try.func32, Try.ntmps32
  go_upto_region 2 with (first | (at_make; refine wpList_make_blk rfl _ _ 53 rfl 58 i0 _ Try.underlying53 hi hz0 0 (n + 1) rfl rfl (Nat.zero_le _) (by rw [hz2]; omega) (by unfold maxLen; omega) ?_; intro w1 hB1 hs1 hb1))
  have hbox : Blk w1 w.heap.size e.cells 58 := by
    have h0 : Blk (w.alloc (.cells e.cells.toArray 58)) w.heap.size e.cells 58 := by
      show (w.heap.push _)[w.heap.size]? = _
      simp
    exact h0.keep hb1 (by simp)
  have hbl : Below w.heap.size w w1 := ((Below.refl w.heap.size w).alloc (Nat.le_refl _) _).trans (hb1.mono (by simp))
  have hlen : (madeCells (Value.agg #[.int .i64 0, .int .i64 0, .slice none 0 0, .int .i64 0]).cells ((n + 1) * i0.size)).toList.length = 4 * (n + 1) := by rw [size_made, hz1]; omega
  have hB1' : Blk w1 (w.heap.size + 1) (madeCells (Value.agg #[.int .i64 0, .int .i64 0, .slice none 0 0, .int .i64 0]).cells ((n + 1) * i0.size)).toList 58 := by simpa using hB1
  have hsz1 : w1.heap.size = w.heap.size + 2 := by simpa using hs1
  clear hB1 hb1 hs1
  generalize (madeCells (Value.agg #[.int .i64 0, .int .i64 0, .slice none 0 0, .int .i64 0]).cells ((n + 1) * i0.size)).toList = zs at hlen hB1'
  go_wp2_with fail
  go_loopw [5, 6, 15] (fun v ad i wr => ∃ (k m : Nat) (O : List Ent) (sp : List Value) (added : Bool), k ≤ n ∧ i = .int .i64 k ∧ ad = .bool added ∧ v = .slice (some ⟨w.heap.size + 1, 0, none⟩) m (n + 1) ∧ Hid (O.length = m) ∧ WInv e L O k added ∧
    Blk wr (w.heap.size + 1) (flat O ++ sp) 58 ∧ Hid ((flat O ++ sp).length = 4 * (n + 1)) ∧ Blk wr w.heap.size e.cells 58 ∧ Below w.heap.size w wr) (fun _ _ i _ => n - (intOf i).toNat)
  case atStart => exact ⟨0, 0, [], zs, false, Nat.zero_le _, rfl, rfl, rfl, rfl, WInv.start e L, hB1', hlen, hbox, hbl⟩
  case round =>
    obtain ⟨k, m, O, sp, added, hk, rfl, rfl, rfl, hO, hI, hBo, hcl, hbx, hbw⟩ := hrel
    have hsz : w.heap.size + 1 < wr.heap.size := hBo.lt
    have hsz0 : w.heap.size < wr.heap.size := by omega
    by_cases hlt : k < n
    · obtain ⟨f, hf⟩ : ∃ f, L[k]? = some f := ⟨L[k]'(by have := HL.out; omega), by simp⟩
      have hbL := hB.keep hbw hgl
      obtain ⟨c0, c1, c2, c3⟩ := flat_at (sp := []) hf
      rw [List.append_nil, ← hbL.cell, Nat.mul_comm] at c0 c1 c2 c3
      obtain ⟨d0, d1, d2, d3⟩ := hbx.at0
      have hlt' : (k : Int) < (n : Int) := by omega
      have hpush := fun e => flat_push (m := m) hO.out (e := e) (sp := sp)
      cases added with
      | true =>
        have hnx := hI.on hf
        have hm : m = k + 1 := by have := hI.2; have := hO.out; simp at *; omega
        have hm' : m + 1 ≤ n + 1 := by omega
        have h4 : m * 4 + 4 ≤ (flat O ++ sp).length := by rw [hcl.out]; omega
        have hO' : Hid ((O ++ [f]).length = m + 1) := by show _ = _; rw [List.length_append, hO.out]; rfl
        have hcl' := fun e => push_len (e := e) hO.out hcl.out (by omega)
        clear hm
        go_wp2_with (at_builtin; refine wpList_append_blk rfl _ _ 53 rfl 58 i0 Try.underlying53 hi (w.heap.size + 1) m (n + 1) (flat O ++ sp) rfl ?hB1 _ 1 1 (Ent.cells f) rfl ?hn1 ?hc1 (cells_one _) ?b11 ?b21 ?_)
        case hB1 => exact (hBo.alloc _).alloc _
        case hn1 => first | rfl | (rw [hz1]; rfl)
        case hc1 => exact new_cells _ f _ (by first | rfl | simp) 58
        all_goals first | exact hm' | exact h4 | (rw [hz1]; exact h4) | skip
        intro w' hB' hU'
        have hbe : Below w.heap.size w w' := hbw.trans ((below_alloc2 (by omega) _ _).trans (hU'.below (by omega)))
        have hbx' : Blk w' w.heap.size e.cells 58 := ((hbx.alloc _).alloc _).upd hU' (by omega)
        have HC : Hid ((flat (O ++ [f]) ++ List.drop 4 sp).length = 4 * (n + 1)) := hcl' f
        clear hU' hpush hcl'
        go_wp2
        go_roundw
        case rel => exact ⟨k + 1, m + 1, _, _, true, by omega, by go_num, rfl, rfl, hO', hnx, hB', HC, hbx', hbe⟩
        case measure => simp [intOf]; omega
      | false =>
        have hm : m = k := by have := hI.2; have := hO.out; simp at *; omega
        have hm' : m + 1 ≤ n + 1 := by omega
        have hm2 : m + 1 + 1 ≤ n + 1 := by omega
        have h4 : m * 4 + 4 ≤ (flat O ++ sp).length := by rw [hcl.out]; omega
        have hcl' := fun e => push_len (e := e) hO.out hcl.out (by omega)
        by_cases hs : e.site < f.site
        · have hnx := hI.add hf hs
          have hO1 : Hid ((O ++ [e]).length = m + 1) := by show _ = _; rw [List.length_append, hO.out]; rfl
          have hO' : Hid ((O ++ [e, f]).length = m + 1 + 1) := by show _ = _; rw [List.length_append, hO.out]; rfl
          have hcl1 := hcl' e
          have hcl2 := fun e' => push_len (e := e') hO1.out hcl1 (by omega)
          have hpush2 := fun e' => flat_push (m := m + 1) hO1.out (e := e') (sp := sp.drop 4)
          have h42 : (m + 1) * 4 + 4 ≤ (flat (O ++ [e]) ++ sp.drop 4).length := by rw [hcl1]; omega
          have HC1 : Hid ((flat (O ++ [e, f]) ++ List.drop 8 sp).length = 4 * (n + 1)) := by have := hcl2 f; rw [List.drop_drop, List.append_assoc] at this; exact this
          clear hcl' hcl1 hcl2 hm hO1
          go_wp2_with (at_builtin; refine wpList_append_blk rfl _ _ 53 rfl 58 i0 Try.underlying53 hi (w.heap.size + 1) m (n + 1) (flat O ++ sp) rfl ?hB2 _ 1 1 (Ent.cells e) rfl ?hn2 ?hc2 (cells_one _) ?b12 ?b22 ?_)
          case hB2 => exact (hBo.alloc _).alloc _
          case hn2 => first | rfl | (rw [hz1]; rfl)
          case hc2 => exact new_cells _ e _ (by first | rfl | simp) 58
          all_goals first | exact hm' | exact h4 | (rw [hz1]; exact h4) | skip
          intro w' hB' hU'
          have hbe : Below w.heap.size w w' := hbw.trans ((below_alloc2 (by omega) _ _).trans (hU'.below (by omega)))
          have hbx' : Blk w' w.heap.size e.cells 58 := ((hbx.alloc _).alloc _).upd hU' (by omega)
          have hbf : Blk w' wr.heap.size f.cells 58 := by
            have h0 : Blk (wr.alloc (.cells f.cells.toArray 58)) wr.heap.size f.cells 58 := by
              show (wr.heap.push _)[wr.heap.size]? = _
              simp
            exact (h0.alloc _).upd hU' (by omega)
          have hsz' : w'.heap.size = wr.heap.size + 2 := by have := hU'.size; simpa using this
          obtain ⟨g0, g1, g2, g3⟩ := hbf.at0
          have hsz1' : wr.heap.size < w'.heap.size := by omega
          clear hU' c0 c1 c2 c3 d0 d1 d2 d3 hsz'
          go_wp2_with (at_builtin; refine wpList_append_blk rfl _ _ 53 rfl 58 i0 Try.underlying53 hi (w.heap.size + 1) (m + 1) (n + 1) (flat (O ++ [e]) ++ sp.drop 4) rfl ?hB3 _ 1 1 (Ent.cells f) rfl ?hn3 ?hc3 (cells_one _) ?b13 ?b23 ?_)
          case hB3 => exact hB'.alloc _
          case hn3 => first | rfl | (rw [hz1]; rfl)
          case hc3 => exact new_cells _ f _ (by first | rfl | simp) 58
          all_goals first | exact hm2 | exact h42 | (rw [hz1]; exact h42) | skip
          intro w2 hB2 hU2
          have hbe2 : Below w.heap.size w w2 := hbe.trans (((Below.refl _ _).alloc (by omega) _).trans (hU2.below (by omega)))
          have hbx2 : Blk w2 w.heap.size e.cells 58 := (hbx'.alloc _).upd hU2 (by omega)
          clear hU2 hpush hpush2 g0 g1 g2 g3
          go_wp2
          go_roundw
          case rel => exact ⟨k + 1, m + 1 + 1, _, _, true, by omega, by go_num, rfl, rfl, hO', hnx, hB2, HC1, hbx2, hbe2⟩
          case measure => simp [intOf]; omega
        · have hnx := hI.pass hf hs
          have hs' : f.site ≤ e.site := by omega
          clear hs
          have hO' : Hid ((O ++ [f]).length = m + 1) := by show _ = _; rw [List.length_append, hO.out]; rfl
          clear hm
          go_wp2_with (at_builtin; refine wpList_append_blk rfl _ _ 53 rfl 58 i0 Try.underlying53 hi (w.heap.size + 1) m (n + 1) (flat O ++ sp) rfl ?hB4 _ 1 1 (Ent.cells f) rfl ?hn4 ?hc4 (cells_one _) ?b14 ?b24 ?_)
          case hB4 => exact (hBo.alloc _).alloc _
          case hn4 => first | rfl | (rw [hz1]; rfl)
          case hc4 => exact new_cells _ f _ (by first | rfl | simp) 58
          all_goals first | exact hm' | exact h4 | (rw [hz1]; exact h4) | skip
          intro w' hB' hU'
          have hbe : Below w.heap.size w w' := hbw.trans ((below_alloc2 (by omega) _ _).trans (hU'.below (by omega)))
          have hbx' : Blk w' w.heap.size e.cells 58 := ((hbx.alloc _).alloc _).upd hU' (by omega)
          have HC : Hid ((flat (O ++ [f]) ++ List.drop 4 sp).length = 4 * (n + 1)) := hcl' f
          clear hU' hpush hcl'
          go_wp2
          go_roundw
          case rel => exact ⟨k + 1, m + 1, _, _, false, by omega, by go_num, rfl, rfl, hO', hnx, hB', HC, hbx', hbe⟩
          case measure => simp [intOf]; omega
    · have hd : L.drop k = [] := List.drop_eq_nil_of_le (by have := HL.out; omega)
      have hO2 := hO.out
      cases added with
      | true =>
        have hw : O = ins e L := by have := hI.1; rw [hd] at this; simpa using this.symm
        subst hw
        have hn1 : m ≤ n + 1 := by have := hI.2; simp at this; omega
        clear hO hI hd
        have HM : Hid (m = (ins e L).length) := hO2.symm
        clear hO2
        go_wp2_with fail
        refine (purge_any _ _ _ (ins e L) sp _ (by omega) HM hn1 hBo).mono ?_
        rintro x w' ⟨sp', rfl, hB', hb'⟩
        go_wp2
        go_ret
        exact ⟨sp', rfl, hB', hbw.trans (hb'.mono (by omega))⟩
      | false =>
        have hw : O ++ [e] = ins e L := by have := hI.1; rw [hd] at this; simpa [ins] using this.symm
        have hn1 : m + 1 ≤ n + 1 := by have := hI.2; simp at this; omega
        have HM : Hid (m + 1 = (ins e L).length) := by show _ = _; rw [← hw, List.length_append, hO2]; rfl
        have hpush : Hid (∀ e : Ent, (flat O ++ sp).take (m * 4) ++ (e.cells ++ (flat O ++ sp).drop (m * 4 + e.cells.length)) = flat (O ++ [e]) ++ sp.drop 4) := fun e => flat_push hO2
        have h4 : m * 4 + 4 ≤ (flat O ++ sp).length := by rw [hcl.out]; omega
        have HW : Hid (O ++ [e] = ins e L) := hw
        obtain ⟨d0, d1, d2, d3⟩ := hbx.at0
        clear hO hI hd hO2 hw
        go_wp2_with (at_builtin; refine wpList_append_blk rfl _ _ 53 rfl 58 i0 Try.underlying53 hi (w.heap.size + 1) m (n + 1) (flat O ++ sp) rfl ?hB5 _ 1 1 (Ent.cells e) rfl ?hn5 ?hc5 (cells_one _) ?b15 ?b25 ?_)
        case hB5 => exact hBo.alloc _
        case hn5 => first | rfl | (rw [hz1]; rfl)
        case hc5 => exact new_cells _ e _ (by first | rfl | simp) 58
        all_goals first | exact hn1 | exact h4 | (rw [hz1]; exact h4) | skip
        intro w' hB' hU'
        rw [hpush.out, HW.out] at hB'
        have hbe : Below w.heap.size w w' := hbw.trans (((Below.refl _ _).alloc (by omega) _).trans (hU'.below (by omega)))
        clear hU' hpush
        go_wp2_with fail
        refine (purge_any _ _ _ (ins e L) (sp.drop 4) _ (by omega) HM hn1 hB').mono ?_
        rintro x w2 ⟨sp', rfl, hB2, hb2⟩
        go_wp2
        go_ret
        exact ⟨sp', rfl, hB2, hbe.trans (hb2.mono (by omega))⟩

end Go.Proofs.Qxb6617269a
