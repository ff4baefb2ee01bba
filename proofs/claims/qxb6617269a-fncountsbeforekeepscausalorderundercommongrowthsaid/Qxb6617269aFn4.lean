import Derived.Test.Qxb6617269aBefore
import Derived.Test.Qxb6617269aOrder
import Derived.Deep.DeepCutAuto
namespace Go.Proofs.Qxb6617269a
open Go.RowKit
open Plain (sum lex before Fit csum)

theorem bytes12_yes (a b c : Option Addr) (n m l cap cap' cap'' : Nat) (h : n + m + l ≤ 1048576) (w : World) :
    Calls Try.prog 12 #[.slice a n cap, .slice b m cap', .slice c l cap''] w fun e w' => e = .returned (.bool true) ∧ w = w' := by
  go_enter Try.func12, Try.ntmps12
  go_wp2
  go_ret
  exact ⟨rfl, rfl⟩

theorem bytes12_no (a b c : Option Addr) (n m l cap cap' cap'' : Nat) (h : ¬ n + m + l ≤ 1048576) (hn : n ≤ maxLen) (hm : m ≤ maxLen) (hl : l ≤ maxLen) (w : World) :
    Calls Try.prog 12 #[.slice a n cap, .slice b m cap', .slice c l cap''] w fun e w' => e = .returned (.bool false) ∧ w = w' := by
  unfold maxLen at hn hm hl
  go_enter Try.func12, Try.ntmps12
  by_cases h1 : n ≤ 1048576
  · by_cases h2 : m ≤ 1048576
    · by_cases h3 : n + m ≤ 1048576
      · by_cases h4 : l ≤ 1048576
        · go_wp2
          go_ret
          exact ⟨rfl, rfl⟩
        · go_wp2
          go_ret
          exact ⟨rfl, rfl⟩
      · go_wp2
        go_ret
        exact ⟨rfl, rfl⟩
    · go_wp2
      go_ret
      exact ⟨rfl, rfl⟩
  · go_wp2
    go_ret
    exact ⟨rfl, rfl⟩

/-- The counts ce, of which the first k are made: the sums, and they fit. -/
def Made (xs es ce : List Int) (n k : Nat) : Prop := ce.length = n ∧ ∀ j, j < k → ce.getD j 0 = xs.getD j 0 + es.getD j 0 ∧ xs.getD j 0 + es.getD j 0 ≤ 9223372036854775807

theorem Made.step {xs es ce : List Int} {n k : Nat} (h : Made xs es ce n k) (hk : k < n) (hf : xs.getD k 0 + es.getD k 0 ≤ 9223372036854775807) : Made xs es (ce.set k (xs.getD k 0 + es.getD k 0)) n (k + 1) := by
  obtain ⟨h1, h2⟩ := h
  refine ⟨by simpa using h1, fun j hj => ?_⟩
  by_cases e : j = k
  · subst e
    refine ⟨?_, hf⟩
    simp [List.getD, h1, hk]
  · have := h2 j (by omega)
    refine ⟨?_, this.2⟩
    rw [← this.1]
    simp only [List.getD, List.getElem?_set]
    rw [if_neg (fun h => e h.symm)]

theorem Made.wf {xs es ce : List Int} {n : Nat} (h : Made xs es ce n n) (hx : n = xs.length) (px : ∀ x ∈ xs, 0 ≤ x) (pe : ∀ x ∈ es, 0 ≤ x) : ∀ q ∈ ce, (Lit.int .i64 q).wf = true := by
  intro q hq
  obtain ⟨j, hj, rfl⟩ := List.mem_iff_getElem.1 hq
  have h2 := h.2 j (by have := h.1; omega)
  have e : ce.getD j 0 = ce[j] := by simp [List.getD, hj]
  have a1 := Plain.getD_nonneg px j
  have a2 := Plain.getD_nonneg pe j
  simp [Lit.wf, IntKind.min, IntKind.max, IntKind.signed, IntKind.bits]
  omega

theorem Made.whole {xs es ce : List Int} {n : Nat} (h : Made xs es ce n n) (hx : n = xs.length) (he : n = es.length) : ce = Plain.add xs es := by
  obtain ⟨h1, h2⟩ := h
  apply Plain.ext_getD
  · rw [Plain.add_length (by omega), h1, hx]
  · intro j hj
    rw [(h2 j (by omega)).1, Plain.add_getD (by omega) (by omega)]

theorem same_step {xs ys : List Int} {j : Nat} {same b : Bool} (h : same = true ↔ ∀ i, i < j → xs.getD i 0 = ys.getD i 0)
    (hb : (xs.getD j 0 = ys.getD j 0 ∧ b = same) ∨ (¬ xs.getD j 0 = ys.getD j 0 ∧ b = false)) : b = true ↔ ∀ i, i < j + 1 → xs.getD i 0 = ys.getD i 0 := by
  rcases hb with ⟨h1, rfl⟩ | ⟨h1, rfl⟩
  · rw [h]
    refine ⟨fun g i hi => ?_, fun g i hi => g i (by omega)⟩
    by_cases e : i = j
    · rw [e]; exact h1
    · exact g i (by omega)
  · exact ⟨fun g => (by cases g), fun g => absurd (g j (by omega)) h1⟩

theorem below_step {xs ys : List Int} {j : Nat} {same b : Bool} (h : same = true ↔ ∀ i, i < j → xs.getD i 0 ≤ ys.getD i 0)
    (hb : (xs.getD j 0 ≤ ys.getD j 0 ∧ b = same) ∨ (¬ xs.getD j 0 ≤ ys.getD j 0 ∧ b = false)) : b = true ↔ ∀ i, i < j + 1 → xs.getD i 0 ≤ ys.getD i 0 := by
  rcases hb with ⟨h1, rfl⟩ | ⟨h1, rfl⟩
  · rw [h]
    refine ⟨fun g i hi => ?_, fun g i hi => g i (by omega)⟩
    by_cases e : i = j
    · rw [e]; exact h1
    · exact g i (by omega)
  · exact ⟨fun g => (by cases g), fun g => absurd (g j (by omega)) h1⟩

theorem same_end {xs ys : List Int} {n : Nat} {same : Bool} (hx : n = xs.length) (hy : n = ys.length) (h : same = true ↔ ∀ i, i < n → xs.getD i 0 = ys.getD i 0) : same = true ↔ xs = ys := by
  rw [h]
  refine ⟨fun g => Plain.ext_getD (by omega) (fun j hj => g j (by omega)), fun g => ?_⟩
  subst g
  intro i _; rfl

/-- The four ways in which the law's four answers can stand. -/
theorem growth_law {xs ys : List Int} (hl : xs.length = ys.length) {same below : Bool} (hs : same = true ↔ xs = ys) (hb : below = true → Plain.below xs ys) :
    (same = true ∧ before xs ys = false ∧ before ys xs = false) ∨ (same = false ∧ before xs ys = true ∧ before ys xs = false) ∨ (same = false ∧ below = false ∧ before xs ys = false ∧ before ys xs = true) := by
  by_cases e : xs = ys
  · subst e
    exact .inl ⟨hs.2 rfl, Plain.before_self _, Plain.before_self _⟩
  · have s0 : same = false := by
      cases same with
      | false => rfl
      | true => exact absurd (hs.1 rfl) e
    have o := Plain.before_other hl e
    cases hbx : before xs ys with
    | true =>
      rw [hbx] at o
      exact .inr (.inl ⟨s0, rfl, by simpa using o⟩)
    | false =>
      rw [hbx] at o
      refine .inr (.inr ⟨s0, ?_, rfl, by simpa using o⟩)
      cases below with
      | false => rfl
      | true => rw [Plain.below_before hl (hb rfl) e] at hbx; cases hbx

set_option maxRecDepth 100000 in
set_option maxHeartbeats 2000000 in
theorem fn4_core (a b c : Option Addr) (n cap cap' cap'' : Nat) (xs ys es : List Int) (w : World) (hn : n ≤ 32768) (HX : Hid (n = xs.length)) (HY : Hid (n = ys.length)) (HE : Hid (n = es.length))
    (hx : Row .i64 w a xs) (hy : Row .i64 w b ys) (he : Row .i64 w c es) (sx sy se : Int) (gx : Hid (csum 0 xs = some sx)) (gy : Hid (csum 0 ys = some sy)) (ge : Hid (csum 0 es = some se)) :
    Calls Try.prog 4 #[.slice a n cap, .slice b n cap', .slice c n cap''] w fun e w' => e = .returned (.bool true) ∧ Below w.heap.size w w' := by
  obtain ⟨i0, hi, hz0, hz1, hz2⟩ := info_parts Try.info3
  have hne := fun wx a n c => run_neq_slice_nil_any (P := Try.prog) wx 22 3 a n c 0 0 Try.underlying22
  have hl : n ≤ 9223372036854775807 := by omega
  go_enter Try.func4, Try.ntmps4
  go_wp2_with fail
  refine (bytes12_yes _ _ _ _ _ _ _ _ _ (by omega) _).mono ?_
  rintro e w' ⟨rfl, rfl⟩
  go_wp2_with fail
  refine (sum_is _ _ _ xs _ _ gx hl HX hx).mono ?_
  rintro e w' ⟨rfl, rfl⟩
  simp only [sumOut]
  go_wp2_with fail
  refine (sum_is _ _ _ ys _ _ gy hl HY hy).mono ?_
  rintro e w' ⟨rfl, rfl⟩
  simp only [sumOut]
  go_wp2_with fail
  refine (sum_is _ _ _ es _ _ ge hl HE he).mono ?_
  rintro e w' ⟨rfl, rfl⟩
  simp only [sumOut]
  go_upto_if 80 with fail
  go_cut [0] (fun v wx => ∃ a cap, v = .slice a n cap ∧ Row .i64 wx a xs ∧ Below w.heap.size w wx)
  case first =>
    cases a with
    | none =>
      go_wp2
      go_meet
      case rel => exact ⟨_, _, rfl, hx, Below.refl _ _⟩
    | some a =>
      go_upto_region 18 with (first | (at_make; refine wpList_make_blk rfl _ _ 22 rfl 3 i0 (.int .i64 0) Try.underlying22 hi hz0 n n rfl rfl (Nat.le_refl _) (by rw [hz2]; omega) (by unfold maxLen; omega) ?_; intro w1 hB1 hs1 hb1))
      rw [hz1] at hB1
      have hx1 := hx.keep hb1
      go_wp2_with (refine wpList_copy_blk rfl (.tmp 84) (.tmp 85) 22 22 rfl 3 Try.underlying22 Try.size3 _ n _ _ _ rfl rfl _ 3 hB1 (by rw [size_made]; omega) .i64 xs HX.out.symm hx1 ?_; intro w2 hB2 hs2 hb2)
      go_meet
      case rel => exact ⟨_, _, rfl, hB2.row hx.wf, hb1.trans hb2⟩
  case rest =>
    obtain ⟨a', cx, rfl, hx', hb'⟩ := hcut
    have hy' := hy.keep hb'
    clear hx hy
    go_upto_if 89 with fail
    go_cut [1] (fun v wx => ∃ a cap, v = .slice a n cap ∧ Row .i64 wx a' xs ∧ Row .i64 wx a ys ∧ Below w.heap.size w wx)
    case first =>
      cases b with
      | none =>
        go_wp2
        go_meet
        case rel => exact ⟨_, _, rfl, hx', hy', hb'⟩
      | some b =>
        go_upto_region 22 with (first | (at_make; refine wpList_make_blk rfl _ _ 22 rfl 3 i0 (.int .i64 0) Try.underlying22 hi hz0 n n rfl rfl (Nat.le_refl _) (by rw [hz2]; omega) (by unfold maxLen; omega) ?_; intro w1 hB1 hs1 hb1))
        rw [hz1] at hB1
        have hy1 := hy'.keep hb1
        go_wp2_with (refine wpList_copy_blk rfl (.tmp 93) (.tmp 94) 22 22 rfl 3 Try.underlying22 Try.size3 _ n _ _ _ rfl rfl _ 3 hB1 (by rw [size_made]; omega) .i64 ys HY.out.symm hy1 ?_; intro w2 hB2 hs2 hb2)
        go_meet
        case rel => exact ⟨_, _, rfl, hx'.keep (hb1.trans hb2), hB2.row hy'.wf, hb'.trans ((hb1.trans hb2).mono hb'.size)⟩
    case rest =>
      obtain ⟨W0, rfl⟩ : ∃ W0, W0 = wc := ⟨_, rfl⟩
      obtain ⟨b', cy, rfl, hx2, hy2, hb2⟩ := hcut
      have he2 := he.keep hb2
      clear hx' hy' hb' hne he
      go_upto_region 25 with (first | (at_make; refine wpList_make_blk rfl _ _ 22 rfl 3 i0 (.int .i64 0) Try.underlying22 hi hz0 n n rfl rfl (Nat.le_refl _) (by rw [hz2]; omega) (by unfold maxLen; omega) ?_; intro w1 hB1 hs1 hb1))
      rw [hz1, made_ints] at hB1
      go_upto_region 26 with (first | (at_make; refine wpList_make_blk rfl _ _ 22 rfl 3 i0 (.int .i64 0) Try.underlying22 hi hz0 n n rfl rfl (Nat.le_refl _) (by rw [hz2]; omega) (by unfold maxLen; omega) ?_; intro w2 hB2 hs2 hb3))
      rw [hz1, made_ints] at hB2
      have hB1' := hB1.keep hb3 (by omega)
      have hbb : Below W0.heap.size W0 w2 := hb1.trans (hb3.mono hb1.size)
      have ex := hx2.keep hbb
      have ey := hy2.keep hbb
      have ee := he2.keep hbb
      have hbw : Below w.heap.size w w2 := hb2.trans (hbb.mono hb2.size)
      have hs1' := hs1
      go_wp2_with fail
      have fx := (Plain.fit_of_csum gx.out).2
      have fy := (Plain.fit_of_csum gy.out).2
      have fe := (Plain.fit_of_csum ge.out).2
      clear ex ey ee hbw hb3 hb1 hs1 hs2 hB1
      go_loopw [17] (fun i wr => ∃ (k : Nat) (ce de : List Int), k ≤ n ∧ i = .int .i64 k ∧ Made xs es ce n k ∧ Made ys es de n k ∧ Blk wr W0.heap.size (ce.map (Value.int .i64)) 3 ∧ Blk wr (W0.heap.size + 1) (de.map (Value.int .i64)) 3 ∧ Below W0.heap.size W0 wr) (fun i _ => n - (intOf i).toNat)
      case atStart =>
        exact ⟨0, List.replicate n 0, List.replicate n 0, Nat.zero_le _, rfl, ⟨by simp, fun j hj => by omega⟩, ⟨by simp, fun j hj => by omega⟩, hB1', by rw [← hs1']; exact hB2, hbb⟩
      case round =>
        obtain ⟨k, ce, de, hk, rfl, m1, m2, B1, B2, hbr⟩ := hrel
        by_cases hlt : k < n
        · have hlt' : (k : Int) < (n : Int) := by omega
          have rx := hx2.keep hbr
          have ry := hy2.keep hbr
          have re := he2.keep hbr
          obtain ⟨bx, ox, ax, cx, wx⟩ := rx k (by rw [← HX.out]; exact hlt)
          obtain ⟨by', oy, ay, cy, wy⟩ := ry k (by rw [← HY.out]; exact hlt)
          obtain ⟨be, oe, ae, ce', we⟩ := re k (by rw [← HE.out]; exact hlt)
          subst ax; subst ay; subst ae
          have ux := wf_i64 wx
          have uy := wf_i64 wy
          have ue := wf_i64 we
          have pe : 0 ≤ es.getD k 0 := Plain.getD_nonneg fe.1 k
          have px : 0 ≤ xs.getD k 0 := Plain.getD_nonneg fx.1 k
          have py : 0 ≤ ys.getD k 0 := Plain.getD_nonneg fy.1 k
          have s1 := fun h => m1.step hlt h
          have s2 := fun h => m2.step hlt h
          clear wx wy we rx ry re m1 m2
          generalize xs.getD k 0 = x at *
          obtain ⟨y, hyk⟩ : ∃ y, ys.getD k 0 = y := ⟨_, rfl⟩
          obtain ⟨z, hek⟩ : ∃ z, es.getD k 0 = z := ⟨_, rfl⟩
          rw [hyk] at cy uy py s2
          rw [hek] at ce' ue pe s1 s2
          have HYK : Hid (ys.getD k 0 = y) := hyk
          have HEK : Hid (es.getD k 0 = z) := hek
          clear hyk hek
          obtain ⟨ux1, ux2⟩ := ux
          obtain ⟨uy1, uy2⟩ := uy
          obtain ⟨ue1, ue2⟩ := ue
          by_cases h1 : 9223372036854775807 - z < x
          · go_wp2
            go_quiet (fail)
            go_wp2
            go_ret
            exact ⟨rfl, below_draws (hb2.trans (hbr.mono hb2.size)) _⟩
          · have h1' : decide (9223372036854775807 - z < x) = false := by simpa using h1
            by_cases h2 : 9223372036854775807 - z < y
            · go_wp2
              go_quiet (fail)
              go_wp2
              go_ret
              exact ⟨rfl, below_draws (hb2.trans (hbr.mono hb2.size)) _⟩
            · have h2' : decide (9223372036854775807 - z < y) = false := by simpa using h2
              have t1 := s1 (by omega)
              have t2 := s2 (by omega)
              have k1 := B1.cell k
              have k2 := B2.cell k
              have z1 := B1.frozen k
              have z2 := B2.frozen k
              clear s1 s2
              go_wp2
              go_quiet (fail)
              go_wp2
              go_cut [] (fun wx => Blk wx W0.heap.size ((ce.set k (x + z)).map (Value.int .i64)) 3 ∧ Blk wx (W0.heap.size + 1) (de.map (Value.int .i64)) 3 ∧ Below W0.heap.size W0 wx)
              case first =>
                have l1 := t1.1
                have l2 : k < ce.length := by simp at l1; omega
                rw [List.getElem?_map, List.getElem?_eq_getElem l2] at k1
                simp only [Option.map_some] at k1
                generalize ce[k] = old at k1
                go_region
                all_goals
                  go_wp2
                  go_meet
                  case rel => exact ⟨by rw [List.map_set]; exact B1.set k _, B2.set_ne (by omega) k _, hbr.trans ⟨rfl, rfl, rfl, by simp [World.setCell], fun j hj => Below.heap_setCell _ _ _ _ (by show j ≠ W0.heap.size; omega)⟩⟩
              case rest =>
                obtain ⟨B1', B2', hbr'⟩ := hcut
                clear cx cy ce' k1 k2 z1 z2 B1 B2
                obtain ⟨_, _, ay, cy, _⟩ := (hy2.keep hbr') k (by rw [← HY.out]; exact hlt)
                obtain ⟨_, _, ae, ce', _⟩ := (he2.keep hbr') k (by rw [← HE.out]; exact hlt)
                simp only [Option.some.injEq, Addr.mk.injEq, and_true] at ay ae
                obtain ⟨rfl, rfl⟩ := ay
                obtain ⟨rfl, rfl⟩ := ae
                rw [HYK.out] at cy
                rw [HEK.out] at ce'
                have k2 := B2'.cell k
                have z2 := B2'.frozen k
                have l1 := t2.1
                have l2 : k < de.length := by simp at l1; omega
                rw [List.getElem?_map, List.getElem?_eq_getElem l2] at k2
                simp only [Option.map_some] at k2
                generalize de[k] = old at k2
                go_wp2
                go_region
                all_goals
                  go_wp2
                  go_roundw
                  case rel => exact ⟨k + 1, _, _, by omega, by go_num, t1, t2, B1'.set_ne (by omega) k _, by rw [List.map_set]; exact B2'.set k _, hbr'.trans ⟨rfl, rfl, rfl, by simp [World.setCell], fun j hj => Below.heap_setCell _ _ _ _ (by show j ≠ W0.heap.size + 1; omega)⟩⟩
                  case measure => simp [intOf]; omega
        · have kn : k = n := by omega
          subst kn
          have e1 := m1.whole HX.out HE.out
          have e2 := m2.whole HY.out HE.out
          have w1 : ∀ q ∈ ce, (Lit.int .i64 q).wf = true := m1.wf HX.out fx.1 fe.1
          have w2 : ∀ q ∈ de, (Lit.int .i64 q).wf = true := m2.wf HY.out fy.1 fe.1
          have r1 := B1.row w1
          have r2 := B2.row w2
          have L1 : Hid (k = ce.length) := m1.1.symm
          have L2 : Hid (k = de.length) := m2.1.symm
          have b1 : Hid (before ce de = before xs ys) := by rw [e1, e2]; exact Plain.add_before (by rw [← HX.out, ← HE.out]) (by rw [← HY.out, ← HE.out])
          have b2' : Hid (before de ce = before ys xs) := by rw [e1, e2]; exact Plain.add_before (by rw [← HY.out, ← HE.out]) (by rw [← HX.out, ← HE.out])
          have rx := hx2.keep hbr
          have ry := hy2.keep hbr
          have hbW := hb2.trans (hbr.mono hb2.size)
          clear e1 e2 w1 w2 m1 m2 B1 B2 hx2 hy2 he2 hbr hbb hB1' hs1' hB2
          obtain ⟨g1, G1⟩ : ∃ r, Hid (csum 0 ce = r) := ⟨_, rfl⟩
          obtain ⟨g2, G2⟩ : ∃ r, Hid (csum 0 de = r) := ⟨_, rfl⟩
          go_wp2_with fail
          refine (sum_is _ _ _ ce _ _ G1 hl L1 r1).mono ?_
          rintro e w' ⟨rfl, rfl⟩
          cases g1 with
          | none =>
            simp only [sumOut]
            go_wp2
            go_ret
            exact ⟨rfl, hbW⟩
          | some t1 =>
            simp only [sumOut]
            go_wp2_with fail
            refine (sum_is _ _ _ de _ _ G2 hl L2 r2).mono ?_
            rintro e w' ⟨rfl, rfl⟩
            cases g2 with
            | none =>
              simp only [sumOut]
              go_wp2
              go_ret
              exact ⟨rfl, hbW⟩
            | some t2 =>
              have fc := (Plain.fit_of_csum G1.out).2
              have fd := (Plain.fit_of_csum G2.out).2
              simp only [sumOut]
              obtain ⟨p1, hp1⟩ : ∃ r, Hid (before xs ys = r) := ⟨_, rfl⟩
              obtain ⟨p2, hp2⟩ : ∃ r, Hid (before ys xs = r) := ⟨_, rfl⟩
              have hp3 : Hid (before ce de = p1) := b1.out.trans hp1.out
              have hp4 : Hid (before de ce = p2) := b2'.out.trans hp2.out
              clear b1 b2' G1 G2
              go_wp2_with fail
              refine (ZZbefore_is _ _ _ _ _ xs ys _ p1 hp1 hl HX HY rx ry fx fy).mono ?_
              rintro e w' ⟨rfl, q1, rfl⟩
              go_wp2_with fail
              refine (ZZbefore_is _ _ _ _ _ ys xs _ p2 hp2 hl HY HX (ry.drewN q1) (rx.drewN q1) fy fx).mono ?_
              rintro e w' ⟨rfl, q2, rfl⟩
              go_wp2_with fail
              obtain ⟨W1, hW1⟩ : ∃ W1, W1 = wr.drewN (q1 + q2) := ⟨_, rfl⟩
              have rx1 : Row .i64 W1 a' xs := by rw [hW1]; exact rx
              have ry1 : Row .i64 W1 b' ys := by rw [hW1]; exact ry
              have rc1 : Row .i64 W1 (some ⟨W0.heap.size, 0, none⟩) ce := by rw [hW1]; exact r1
              have rd1 : Row .i64 W1 (some ⟨W0.heap.size + 1, 0, none⟩) de := by rw [hW1]; exact r2
              have hbW1 : Below w.heap.size w W1 := by rw [hW1]; exact below_draws hbW _
              rw [← hW1]
              clear hW1 rx ry r1 r2 hbW
              go_loopw [24, 25, 26] (fun s t i wx => ∃ (j q : Nat) (same below : Bool), j ≤ k ∧ i = .int .i64 j ∧ s = .bool same ∧ t = .bool below ∧ Hid (same = true ↔ ∀ i, i < j → xs.getD i 0 = ys.getD i 0) ∧ Hid (below = true ↔ ∀ i, i < j → xs.getD i 0 ≤ ys.getD i 0) ∧ wx = W1.drewN q) (fun _ _ i _ => k - (intOf i).toNat)
              case atStart => exact ⟨0, 0, true, true, Nat.zero_le _, rfl, rfl, rfl, ⟨fun _ i hi => by omega, fun _ => rfl⟩, ⟨fun _ i hi => by omega, fun _ => rfl⟩, rfl⟩
              case round =>
                obtain ⟨j, q, same, below, hj, rfl, rfl, rfl, hsame, hbelow, rfl⟩ := hrel
                by_cases hjn : j < k
                · have hjn' : (j : Int) < (k : Int) := by omega
                  obtain ⟨bx, ox, rfl, cx, _⟩ := rx1 j (by rw [← HX.out]; exact hjn)
                  obtain ⟨bY, oy, rfl, cy, _⟩ := ry1 j (by rw [← HY.out]; exact hjn)
                  have s1 := fun b h => same_step (b := b) hsame.out h
                  have s2 := fun b h => below_step (b := b) hbelow.out h
                  clear hsame hbelow
                  generalize xs.getD j 0 = x at cx s1 s2
                  generalize ys.getD j 0 = y at cy s1 s2
                  by_cases hxy : x = y
                  · have n1 : (x != y) = false := by simp [hxy]
                    have n2 : decide (y < x) = false := by simp; omega
                    have f1 := s1 same (.inl ⟨hxy, rfl⟩)
                    have f2 := s2 below (.inl ⟨by omega, rfl⟩)
                    have F1 : Hid (same = true ↔ ∀ i, i < j + 1 → xs.getD i 0 = ys.getD i 0) := f1
                    have F2 : Hid (below = true ↔ ∀ i, i < j + 1 → xs.getD i 0 ≤ ys.getD i 0) := f2
                    clear s1 s2 f1 f2 hxy
                    go_wp2
                    go_quiet (fail)
                    go_wp2
                    go_quiet (fail)
                    go_wp2
                    go_roundw
                    case rel => exact ⟨j + 1, _, _, _, by omega, by go_num, rfl, rfl, F1, F2, by first | rfl | simp only [World.drewN_drewN]⟩
                    case measure => simp [intOf]; omega
                  · have n1 : (x != y) = true := by simp [hxy]
                    have f1 := s1 false (.inr ⟨hxy, rfl⟩)
                    have F1 : Hid (false = true ↔ ∀ i, i < j + 1 → xs.getD i 0 = ys.getD i 0) := f1
                    by_cases hyx : y < x
                    · have n2 : decide (y < x) = true := by simp [hyx]
                      have f2 := s2 false (.inr ⟨by omega, rfl⟩)
                      have F2 : Hid (false = true ↔ ∀ i, i < j + 1 → xs.getD i 0 ≤ ys.getD i 0) := f2
                      clear s1 s2 f1 f2 hxy
                      go_wp2
                      go_quiet (fail)
                      go_wp2
                      go_quiet (fail)
                      go_wp2
                      go_roundw
                      case rel => exact ⟨j + 1, _, false, false, by omega, by go_num, rfl, rfl, F1, F2, by first | rfl | simp only [World.drewN_drewN]⟩
                      case measure => simp [intOf]; omega
                    · have n2 : decide (y < x) = false := by simpa using hyx
                      have f2 := s2 below (.inl ⟨by omega, rfl⟩)
                      have F2 : Hid (below = true ↔ ∀ i, i < j + 1 → xs.getD i 0 ≤ ys.getD i 0) := f2
                      clear s1 s2 f1 f2 hxy
                      go_wp2
                      go_quiet (fail)
                      go_wp2
                      go_quiet (fail)
                      go_wp2
                      go_roundw
                      case rel => exact ⟨j + 1, _, false, _, by omega, by go_num, rfl, rfl, F1, F2, by first | rfl | simp only [World.drewN_drewN]⟩
                      case measure => simp [intOf]; omega
                · have jk : j = k := by omega
                  subst jk
                  have hs : same = true ↔ xs = ys := same_end HX.out HY.out hsame.out
                  have hbl : below = true → Plain.below xs ys := fun h => Plain.below_of_getD (by rw [← HX.out, ← HY.out]) (fun i hi => (hbelow.out.1 h) i (by rw [HX.out]; exact hi))
                  have law := growth_law (by rw [← HX.out, ← HY.out]) hs hbl
                  rw [hp1.out, hp2.out] at law
                  clear hs hbl hsame hbelow
                  rcases law with ⟨rfl, rfl, rfl⟩ | ⟨rfl, rfl, rfl⟩ | ⟨rfl, rfl, rfl, rfl⟩
                  · cases below <;> (
                      go_wp2_with fail
                      refine (ZZbefore_is _ _ _ _ _ ce de _ false hp3 hl L1 L2 (rc1.drewN _) (rd1.drewN _) fc fd).mono ?_
                      rintro e w' ⟨rfl, q3, rfl⟩
                      go_wp2_with fail
                      refine (ZZbefore_is _ _ _ _ _ de ce _ false hp4 hl L2 L1 (by exact rd1) (by exact rc1) fd fc).mono ?_
                      rintro e w' ⟨rfl, q4, rfl⟩
                      go_wp2
                      go_ret
                      exact ⟨rfl, below_draws hbW1 _⟩)
                  · cases below <;> (
                      go_wp2_with fail
                      refine (ZZbefore_is _ _ _ _ _ ce de _ true hp3 hl L1 L2 (rc1.drewN _) (rd1.drewN _) fc fd).mono ?_
                      rintro e w' ⟨rfl, q3, rfl⟩
                      go_wp2_with fail
                      refine (ZZbefore_is _ _ _ _ _ de ce _ false hp4 hl L2 L1 (by exact rd1) (by exact rc1) fd fc).mono ?_
                      rintro e w' ⟨rfl, q4, rfl⟩
                      go_wp2
                      go_ret
                      exact ⟨rfl, below_draws hbW1 _⟩)
                  · go_wp2_with fail
                    refine (ZZbefore_is _ _ _ _ _ ce de _ false hp3 hl L1 L2 (rc1.drewN _) (rd1.drewN _) fc fd).mono ?_
                    rintro e w' ⟨rfl, q3, rfl⟩
                    go_wp2_with fail
                    refine (ZZbefore_is _ _ _ _ _ de ce _ true hp4 hl L2 L1 (by exact rd1) (by exact rc1) fd fc).mono ?_
                    rintro e w' ⟨rfl, q4, rfl⟩
                    go_wp2
                    go_ret
                    exact ⟨rfl, below_draws hbW1 _⟩

end Go.Proofs.Qxb6617269a
