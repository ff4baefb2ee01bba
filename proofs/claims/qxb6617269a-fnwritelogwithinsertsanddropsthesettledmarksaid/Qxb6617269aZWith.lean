import Derived.Test.Qxb6617269aWith
namespace Go.Proofs.Qxb6617269a
open Go.RowKit

/-- The four columns of a log, each a slice: entry j lies at place j of each. -/
def Cols (w : World) (a1 a2 a3 a4 : Option Addr) (L : List Ent) : Prop :=
  ∀ j e, L[j]? = some e → (∃ b off, a1 = some ⟨b, off, none⟩ ∧ w.cell? ⟨b, off + j, none⟩ = some (.int .i64 e.site)) ∧ (∃ b off, a2 = some ⟨b, off, none⟩ ∧ w.cell? ⟨b, off + j, none⟩ = some (.int .i64 e.ctr)) ∧
    (∃ b off, a3 = some ⟨b, off, none⟩ ∧ w.cell? ⟨b, off + j, none⟩ = some (.slice e.da e.dn e.dc)) ∧ ∃ b off, a4 = some ⟨b, off, none⟩ ∧ w.cell? ⟨b, off + j, none⟩ = some (.int .i64 e.cr)

theorem cell_keep {w w' : World} {a : Addr} {v : Value} (hb : Below w.heap.size w w') (h : w.cell? a = some v) : w'.cell? a = some v := by rw [hb.cell (cell_lt h)]; exact h

theorem Cols.keep {w w' : World} {a1 a2 a3 a4 : Option Addr} {L : List Ent} (h : Cols w a1 a2 a3 a4 L) (hb : Below w.heap.size w w') : Cols w' a1 a2 a3 a4 L := by
  intro j e he
  obtain ⟨⟨b1, o1, e1, c1⟩, ⟨b2, o2, e2, c2⟩, ⟨b3, o3, e3, c3⟩, ⟨b4, o4, e4, c4⟩⟩ := h j e he
  exact ⟨⟨b1, o1, e1, cell_keep hb c1⟩, ⟨b2, o2, e2, cell_keep hb c2⟩, ⟨b3, o3, e3, cell_keep hb c3⟩, ⟨b4, o4, e4, cell_keep hb c4⟩⟩

/-- cs is T as far as place k. -/
def Fill (cs T : List Value) (k : Nat) : Prop := cs.length = T.length ∧ cs.take k = T.take k

theorem Fill.zero {cs T : List Value} (h : cs.length = T.length) : Fill cs T 0 := ⟨h, by simp⟩

theorem Fill.set {cs T : List Value} {k : Nat} {v : Value} (h : Fill cs T k) (hv : T[k]? = some v) : Fill (cs.set k v) T (k + 1) := by
  have hk : k < T.length := (List.getElem?_eq_some_iff.1 hv).1
  refine ⟨by simpa using h.1, ?_⟩
  have hk' : k < cs.length := by rw [h.1]; exact hk
  rw [List.take_succ_eq_append_getElem (by simpa using hk'), List.take_succ_eq_append_getElem hk, List.take_set_of_le (Nat.le_refl _), h.2]
  congr 1
  have := (List.getElem?_eq_some_iff.1 hv).2
  simp [this]

theorem Fill.done {cs T : List Value} {k : Nat} (h : Fill cs T k) (hk : T.length ≤ k) : cs = T := by
  have := h.2
  rwa [List.take_of_length_le (by rw [h.1]; exact hk), List.take_of_length_le hk] at this

theorem Blk.some {w : World} {g : Nat} {cs : List Value} {e : TypeId} (h : Blk w g cs e) {j : Nat} (hj : j < cs.length) : ∃ x, w.cell? ⟨g, j, none⟩ = some x := ⟨cs[j], by rw [h.cell]; simp⟩

theorem with_some (gl n : Nat) (L : List Ent) (e : Ent) (w : World) (hn : n ≤ 1000000) (HL : Hid (n = L.length)) (hB : Blk w gl (flat L) 58) :
    Calls Try.prog 32 #[.slice (some ⟨gl, 0, none⟩) n n, .agg #[.int .i64 e.site, .int .i64 e.ctr, .slice e.da e.dn e.dc, .int .i64 e.cr]] w fun x w' =>
      ∃ go m sp', x = .returned (.slice (some ⟨go, 0, none⟩) m (n + 1)) ∧ Hid (m = (purge (ins e L)).length) ∧ m ≤ n + 1 ∧ Blk w' go (flat (purge (ins e L)) ++ sp') 58 ∧ Below w.heap.size w w' :=
  (with_any gl n L e w hn HL hB).mono fun x w' ⟨sp', h1, h2, h3⟩ => ⟨_, _, sp', h1, rfl, by have := purge_length (ins e L); have := ins_length e L; have := HL.out; omega, h2, h3⟩

theorem Try.info28 : (Try.prog.info? 28).map (fun i => (i.zero, i.size, i.bytes)) = some (some (.slice none 0 0), 1, 24) := by kernel_rfl

set_option maxRecDepth 100000 in
set_option maxHeartbeats 1000000 in
theorem zzwith_any (a1 a2 a3 a4 : Option Addr) (n k1 k2 k3 k4 : Nat) (L : List Ent) (e : Ent) (w : World) (hn : n ≤ 500000) (HL : Hid (n = L.length)) (hC : Cols w a1 a2 a3 a4 L) :
    Calls Try.prog 17 #[.slice a1 n k1, .slice a2 n k2, .slice a3 n k3, .slice a4 n k4, .int .i64 e.site, .int .i64 e.ctr, .slice e.da e.dn e.dc, .int .i64 e.cr] w fun x w' =>
      ∃ b1 b2 b3 b4 m, x = .returned (.tuple #[.slice b1 m m, .slice b2 m m, .slice b3 m m, .slice b4 m m]) ∧ m = (purge (ins e L)).length ∧ Cols w' b1 b2 b3 b4 (purge (ins e L)) ∧ Below w.heap.size w w' := by
  obtain ⟨i0, hi, hz0, hz1, hz2⟩ := info_parts Try.info58
  go_enter Try.func17, Try.ntmps17
  go_upto_region 2 with (first | (at_make; refine wpList_make_blk rfl _ _ 53 rfl 58 i0 _ Try.underlying53 hi hz0 n n rfl rfl (Nat.le_refl _) (by rw [hz2]; omega) (by unfold maxLen; omega) ?_; intro w1 hB1 hs1 hb1))
  have hlen : (madeCells (Value.agg #[.int .i64 0, .int .i64 0, .slice none 0 0, .int .i64 0]).cells (n * i0.size)).toList.length = (flat L).length := by rw [size_made, hz1, flat_length, ← HL.out]; omega
  generalize (madeCells (Value.agg #[.int .i64 0, .int .i64 0, .slice none 0 0, .int .i64 0]).cells (n * i0.size)).toList = zs at hlen hB1
  have hF := Fill.zero hlen
  go_wp2_with fail
  go_loopw [34] (fun i wr => ∃ (k : Nat) (cs : List Value), k ≤ n ∧ i = .int .i64 k ∧ Blk wr w.heap.size cs 58 ∧ Fill cs (flat L) (k * 4) ∧ Below w.heap.size w wr) (fun i _ => n - (intOf i).toNat)
  case atStart => exact ⟨0, zs, Nat.zero_le _, rfl, hB1, by simpa using hF, hb1⟩
  case round =>
    obtain ⟨k, cs, hk, rfl, hBr, hFr, hbw⟩ := hrel
    by_cases hlt : k < n
    · obtain ⟨f, hf⟩ : ∃ f, L[k]? = some f := ⟨L[k]'(by have := HL.out; omega), by simp⟩
      have hlt' : (k : Int) < (n : Int) := by omega
      obtain ⟨⟨b1, o1, e1, c1⟩, ⟨b2, o2, e2, c2⟩, ⟨b3, o3, e3, c3⟩, ⟨b4, o4, e4, c4⟩⟩ := (hC.keep hbw) k f hf
      subst e1; subst e2; subst e3; subst e4
      have hl := hFr.1
      rw [flat_length, ← HL.out] at hl
      obtain ⟨x0, q0⟩ : ∃ x, wr.cell? ⟨w.heap.size, k * 4, none⟩ = some x := ⟨cs[k * 4]'(by omega), by rw [hBr.cell]; simp⟩
      obtain ⟨x1, q1⟩ : ∃ x, wr.cell? ⟨w.heap.size, k * 4 + 1, none⟩ = some x := ⟨cs[k * 4 + 1]'(by omega), by rw [hBr.cell]; simp⟩
      obtain ⟨x2, q2⟩ : ∃ x, wr.cell? ⟨w.heap.size, k * 4 + 2, none⟩ = some x := ⟨cs[k * 4 + 2]'(by omega), by rw [hBr.cell]; simp⟩
      obtain ⟨x3, q3⟩ : ∃ x, wr.cell? ⟨w.heap.size, k * 4 + 3, none⟩ = some x := ⟨cs[k * 4 + 3]'(by omega), by rw [hBr.cell]; simp⟩
      have z0 := hBr.frozen (k * 4)
      have z1 := hBr.frozen (k * 4 + 1)
      have z2 := hBr.frozen (k * 4 + 2)
      have z3 := hBr.frozen (k * 4 + 3)
      obtain ⟨t0, t1, t2, t3⟩ := flat_at (sp := []) hf
      rw [List.append_nil, Nat.mul_comm] at t0 t1 t2 t3
      have F4 := (((hFr.set t0).set t1).set t2).set t3
      clear t0 t1 t2 t3
      go_wp2
      go_region
      go_wp2
      go_roundw
      case rel => exact ⟨k + 1, _, by omega, by go_num, (((hBr.set _ _).set _ _).set _ _).set _ _, by rw [Nat.succ_mul]; exact F4, ((((hbw.setCell (p := ⟨w.heap.size, k * 4, none⟩) (Nat.le_refl _) _).setCell (p := ⟨w.heap.size, k * 4 + 1, none⟩) (Nat.le_refl _) _).setCell (p := ⟨w.heap.size, k * 4 + 2, none⟩) (Nat.le_refl _) _).setCell (p := ⟨w.heap.size, k * 4 + 3, none⟩) (Nat.le_refl _) _).drew⟩
      case measure => simp [intOf]; omega
    · have hcs : cs = flat L := hFr.done (by rw [flat_length, ← HL.out]; omega)
      subst hcs
      clear hFr hF hB1 hlen
      have hgr := hBr.lt
      go_wp2_with fail
      refine (with_some _ _ L e _ (by omega) HL (hBr.alloc _)).mono ?_
      rintro x w2 ⟨go, m, sp', rfl, HM, hm, hB2, hb2⟩
      have hbw2 : Below w.heap.size w w2 := hbw.trans (((Below.refl _ _).alloc (by omega) _).trans (hb2.mono (by simp; omega)))
      clear hbw hb2 hBr hC hk hlt hb1 hs1
      obtain ⟨i3, hi3, hy0, hy1, hy2⟩ := info_parts Try.info3
      obtain ⟨i28, hi28, hx0, hx1, hx2⟩ := info_parts Try.info28
      have hgo := hB2.lt
      go_upto_region 10 with (first | (at_make; refine wpList_make_blk rfl _ _ 22 rfl 3 i3 _ Try.underlying22 hi3 hy0 m m rfl rfl (Nat.le_refl _) (by rw [hy2]; omega) (by unfold maxLen; omega) ?_; intro w3 hB3 hs3 hb3))
      go_upto_region 11 with (first | (at_make; refine wpList_make_blk rfl _ _ 22 rfl 3 i3 _ Try.underlying22 hi3 hy0 m m rfl rfl (Nat.le_refl _) (by rw [hy2]; omega) (by unfold maxLen; omega) ?_; intro w4 hB4 hs4 hb4))
      go_upto_region 12 with (first | (at_make; refine wpList_make_blk rfl _ _ 27 rfl 28 i28 _ Try.underlying27 hi28 hx0 m m rfl rfl (Nat.le_refl _) (by rw [hx2]; omega) (by unfold maxLen; omega) ?_; intro w5 hB5 hs5 hb5))
      go_upto_region 13 with (first | (at_make; refine wpList_make_blk rfl _ _ 22 rfl 3 i3 _ Try.underlying22 hi3 hy0 m m rfl rfl (Nat.le_refl _) (by rw [hy2]; omega) (by unfold maxLen; omega) ?_; intro w6 hB6 hs6 hb6))
      have z3 : Blk w6 w2.heap.size (madeCells (Value.int .i64 0).cells (m * i3.size)).toList 3 := ((hB3.keep hb4 (by omega)).keep hb5 (by omega)).keep hb6 (by omega)
      have z4 : Blk w6 (w2.heap.size + 1) (madeCells (Value.int .i64 0).cells (m * i3.size)).toList 3 := by have := (hB4.keep hb5 (by omega)).keep hb6 (by omega); rw [hs3] at this; exact this
      have z5 : Blk w6 (w2.heap.size + 1 + 1) (madeCells (Value.slice none 0 0).cells (m * i28.size)).toList 28 := by have := hB5.keep hb6 (by omega); rw [hs4, hs3] at this; exact this
      have z6 : Blk w6 (w2.heap.size + 1 + 1 + 1) (madeCells (Value.int .i64 0).cells (m * i3.size)).toList 3 := by have := hB6; rw [hs5, hs4, hs3] at this; exact this
      have hb26 : Below w2.heap.size w2 w6 := hb3.trans ((hb4.mono (by omega)).trans ((hb5.mono (by omega)).trans (hb6.mono (by omega))))
      have l3 : (madeCells (Value.int .i64 0).cells (m * i3.size)).toList.length = m := by rw [size_made, hy1]; omega
      have l5 : (madeCells (Value.slice none 0 0).cells (m * i28.size)).toList.length = m := by rw [size_made, hx1]; omega
      generalize (madeCells (Value.int .i64 0).cells (m * i3.size)).toList = y3 at l3 z3 z4 z6
      generalize (madeCells (Value.slice none 0 0).cells (m * i28.size)).toList = y5 at l5 z5
      obtain ⟨M, hM⟩ : ∃ M, M = purge (ins e L) := ⟨_, rfl⟩
      rw [← hM] at hB2 HM
      have HMM : Hid (M = purge (ins e L)) := hM
      have f3 : Fill y3 (M.map fun f => .int .i64 f.site) 0 := Fill.zero (by rw [l3, List.length_map, ← HM.out])
      have f4 : Fill y3 (M.map fun f => .int .i64 f.ctr) 0 := Fill.zero (by rw [l3, List.length_map, ← HM.out])
      have f5 : Fill y5 (M.map fun f => .slice f.da f.dn f.dc) 0 := Fill.zero (by rw [l5, List.length_map, ← HM.out])
      have f6 : Fill y3 (M.map fun f => .int .i64 f.cr) 0 := Fill.zero (by rw [l3, List.length_map, ← HM.out])
      clear hM hB3 hB4 hB5 hB6 hs3 hs4 hs5 hs6 hb3 hb4 hb5 hb6 l3 l5
      obtain ⟨G, hG⟩ : ∃ G, G = w2.heap.size := ⟨_, rfl⟩
      rw [← hG] at z3 z4 z5 z6 hb26 hgo
      have HG : Hid (G = w2.heap.size) := hG
      rw [← hG]
      clear hG
      go_wp2_with fail
      go_loopw [82] (fun i wx => ∃ (k : Nat) (s3 s4 s5 s6 : List Value), k ≤ m ∧ i = .int .i64 k ∧ Blk wx G s3 3 ∧ Blk wx (G + 1) s4 3 ∧ Blk wx (G + 1 + 1) s5 28 ∧ Blk wx (G + 1 + 1 + 1) s6 3 ∧
        Fill s3 (M.map fun f => .int .i64 f.site) k ∧ Fill s4 (M.map fun f => .int .i64 f.ctr) k ∧ Fill s5 (M.map fun f => .slice f.da f.dn f.dc) k ∧ Fill s6 (M.map fun f => .int .i64 f.cr) k ∧ Below G w2 wx) (fun i _ => m - (intOf i).toNat)
      case atStart => exact ⟨0, y3, y3, y5, y3, Nat.zero_le _, rfl, z3, z4, z5, z6, f3, f4, f5, f6, hb26⟩
      case round =>
        clear z3 z4 z5 z6 f3 f4 f5 f6 hb26
        obtain ⟨j, s3, s4, s5, s6, hj, rfl, z3, z4, z5, z6, f3, f4, f5, f6, hbx⟩ := hrel
        by_cases hjm : j < m
        · obtain ⟨f, hf⟩ : ∃ f, M[j]? = some f := ⟨M[j]'(by have := HM.out; omega), by simp⟩
          have hjm' : (j : Int) < (m : Int) := by omega
          have hBg := hB2.keep hbx hgo
          obtain ⟨c0, c1, c2, c3⟩ := flat_at (sp := sp') hf
          rw [← hBg.cell, Nat.mul_comm] at c0 c1 c2 c3
          have g3 := f3.set (v := .int .i64 f.site) (by simp [hf])
          have g4 := f4.set (v := .int .i64 f.ctr) (by simp [hf])
          have g5 := f5.set (v := .slice f.da f.dn f.dc) (by simp [hf])
          have g6 := f6.set (v := .int .i64 f.cr) (by simp [hf])
          obtain ⟨x3, q3⟩ := z3.some (j := j) (by rw [f3.1, List.length_map, ← HM.out]; exact hjm)
          obtain ⟨x4, q4⟩ := z4.some (j := j) (by rw [f4.1, List.length_map, ← HM.out]; exact hjm)
          obtain ⟨x5, q5⟩ := z5.some (j := j) (by rw [f5.1, List.length_map, ← HM.out]; exact hjm)
          obtain ⟨x6, q6⟩ := z6.some (j := j) (by rw [f6.1, List.length_map, ← HM.out]; exact hjm)
          have r3 := z3.frozen j
          have r4 := z4.frozen j
          have r5 := z5.frozen j
          have r6 := z6.frozen j
          have n3 : ¬ go = G := by omega
          have n4 : ¬ go = G + 1 := by omega
          have n5 : ¬ go = G + 1 + 1 := by omega
          go_wp2
          go_roundw
          case rel =>
            exact ⟨j + 1, _, _, _, _, by omega, by go_num, (((z3.set j _).set_ne (by omega) j _).set_ne (by omega) j _).set_ne (by omega) j _, (((z4.set_ne (by omega) j _).set j _).set_ne (by omega) j _).set_ne (by omega) j _,
              (((z5.set_ne (by omega) j _).set_ne (by omega) j _).set j _).set_ne (by omega) j _, (((z6.set_ne (by omega) j _).set_ne (by omega) j _).set_ne (by omega) j _).set j _, g3, g4, g5, g6,
              (((hbx.setCell (p := ⟨G, j, none⟩) (Nat.le_refl _) _).setCell (p := ⟨G + 1, j, none⟩) (Nat.le_succ _) _).setCell (p := ⟨G + 1 + 1, j, none⟩) (by show G ≤ G + 1 + 1; omega) _).setCell (p := ⟨G + 1 + 1 + 1, j, none⟩) (by show G ≤ G + 1 + 1 + 1; omega) _⟩
          case measure => simp [intOf]; omega
        · have d3 := f3.done (by rw [List.length_map, ← HM.out]; omega)
          have d4 := f4.done (by rw [List.length_map, ← HM.out]; omega)
          have d5 := f5.done (by rw [List.length_map, ← HM.out]; omega)
          have d6 := f6.done (by rw [List.length_map, ← HM.out]; omega)
          subst d3; subst d4; subst d5; subst d6
          have hcols : Cols wr (some ⟨G, 0, none⟩) (some ⟨G + 1, 0, none⟩) (some ⟨G + 1 + 1, 0, none⟩) (some ⟨G + 1 + 1 + 1, 0, none⟩) M := by
            intro j f hf
            refine ⟨⟨_, 0, rfl, ?_⟩, ⟨_, 0, rfl, ?_⟩, ⟨_, 0, rfl, ?_⟩, ⟨_, 0, rfl, ?_⟩⟩
            · rw [Nat.zero_add, z3.cell]; simp [hf]
            · rw [Nat.zero_add, z4.cell]; simp [hf]
            · rw [Nat.zero_add, z5.cell]; simp [hf]
            · rw [Nat.zero_add, z6.cell]; simp [hf]
          have hbf : Below w.heap.size w wr := hbw2.trans (hbx.mono (by rw [HG.out]; exact hbw2.size))
          clear z3 z4 z5 z6 f3 f4 f5 f6
          go_wp2
          refine bodyPost_ret (v := .tuple #[.slice (some ⟨G, 0, none⟩) m m, .slice (some ⟨G + 1, 0, none⟩) m m, .slice (some ⟨G + 1 + 1, 0, none⟩) m m, .slice (some ⟨G + 1 + 1 + 1, 0, none⟩) m m]) (by simp [results, Try.results17, go_sem]) rfl ?_
          refine ⟨_, _, _, _, m, rfl, by rw [← HMM.out]; exact HM.out, by rw [← HMM.out]; exact hcols, hbf⟩

end Go.Proofs.Qxb6617269a
