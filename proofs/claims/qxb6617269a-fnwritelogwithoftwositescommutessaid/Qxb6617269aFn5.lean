import Derived.Test.Qxb6617269aFn7pre
namespace Go.Proofs.Qxb6617269a
open Go.RowKit
set_option linter.unusedVariables false

set_option maxRecDepth 100000 in
set_option maxHeartbeats 4000000 in
theorem fn5_walk (a1 a2 a3 a4 a7 a11 : Option Addr) (n1 n2 n3 n4 n7 n11 k1 k2 k3 k4 k7 k11 : Nat) (v5 v6 v8 v9 v10 v12 : Int) (x1 x2 x4 x7 x11 : List Int) (ds : List (Option Addr × Nat × Nat)) (w : World)
    (h1 : n1 ≤ maxLen) (h2 : n2 ≤ maxLen) (h3 : n3 ≤ maxLen) (h4 : n4 ≤ maxLen) (h7 : n7 ≤ maxLen) (h11 : n11 ≤ maxLen) (H1 : Hid (n1 = x1.length)) (H2 : Hid (n2 = x2.length)) (H3 : Hid (n3 = ds.length)) (H4 : Hid (n4 = x4.length)) (H7 : Hid (n7 = x7.length)) (H11 : Hid (n11 = x11.length))
    (r1 : Row .i64 w a1 x1) (r2 : Row .i64 w a2 x2) (r3 : DRow w a3 ds) (r4 : Row .i64 w a4 x4) (r7 : Row .u64 w a7 x7) (r11 : Row .u64 w a11 x11) (hS : DOk w ds) :
    Calls Try.prog 5 #[.slice a1 n1 k1, .slice a2 n2 k2, .slice a3 n3 k3, .slice a4 n4 k4, .int .i64 v5, .int .i64 v6, .slice a7 n7 k7, .int .i64 v8, .int .i64 v9, .int .i64 v10, .slice a11 n11 k11, .int .i64 v12] w fun e w' => e = .returned (.bool true) ∧ Below w.heap.size w w' := by
  obtain ⟨i3, hi3, hy0, hy1, hy2⟩ := info_parts Try.info3
  obtain ⟨i76, hi76, hx0, hx1, hx2⟩ := info_parts Try.info76
  have hne := fun wx a n c => run_neq_slice_nil_any (P := Try.prog) wx 22 3 a n c 0 0 Try.underlying22
  have hne' := fun wx a n c => run_neq_slice_nil_any (P := Try.prog) wx 28 76 a n c 0 0 Try.underlying28
  have hM : ∀ d ∈ ds, d.2.1 ≤ maxLen := fun d hd => by obtain ⟨us, h, h', _⟩ := hS d hd; exact h'
  go_enter Try.func5, Try.ntmps5
  go_wp2_with fail
  refine (bytes13 _ _ _ _ _ _ _ _ _ _ _ _ _ _ _ _ _ _ _ _ _ _ _ _ ds _ h1 h2 h3 h4 h7 h11 H3 r3 hM).mono ?_
  rintro e w' ⟨b, rfl, rfl, hsm⟩
  cases b with
  | false =>
    go_wp2
    go_ret
    exact ⟨rfl, Below.refl _ _⟩
  | true =>
  have hsm' : SmallTo ds n3 := hsm.out rfl
  clear hsm hM h1 h2 h3 h4 h7 h11
  by_cases m1 : n1 ≤ 16384
  case neg => as_aux_lemma =>
    go_wp2
    go_ret
    exact ⟨rfl, Below.refl _ _⟩
  by_cases m2 : n2 ≤ 16384
  case neg => as_aux_lemma =>
    go_wp2
    go_ret
    exact ⟨rfl, Below.refl _ _⟩
  by_cases m3 : n3 ≤ 16384
  case neg => as_aux_lemma =>
    go_wp2
    go_ret
    exact ⟨rfl, Below.refl _ _⟩
  by_cases m4 : n4 ≤ 16384
  case neg => as_aux_lemma =>
    go_wp2
    go_ret
    exact ⟨rfl, Below.refl _ _⟩
  by_cases m7 : n7 ≤ 16384
  case neg => as_aux_lemma =>
    go_wp2
    go_ret
    exact ⟨rfl, Below.refl _ _⟩
  by_cases m11 : n11 ≤ 16384
  case neg => as_aux_lemma =>
    go_wp2
    go_ret
    exact ⟨rfl, Below.refl _ _⟩
  have p1 := r1
  have hb1 : Below w.heap.size w w := Below.refl _ _
  go_upto_if 91 with fail
  go_cut [0] (fun v wx => ∃ a k, v = .slice a n1 k ∧ Row .i64 wx a x1 ∧ Below w.heap.size w wx)
  case first => as_aux_lemma =>
    cases a1 with
    | none =>
      go_wp2
      go_meet
      case rel => exact ⟨_, _, rfl, p1, hb1⟩
    | some a =>
      go_upto_region 7 with (first | (at_make; refine wpList_make_blk rfl _ _ 22 rfl 3 i3 (.int .i64 0) Try.underlying22 hi3 hy0 n1 n1 rfl rfl (Nat.le_refl _) (by rw [hy2]; omega) (by unfold maxLen; omega) ?_; intro w1 hB1 hs1 hb1'))
      rw [hy1] at hB1
      have q1 := p1.keep hb1'
      go_wp2_with (refine wpList_copy_blk rfl (.tmp 95) (.tmp 96) 22 22 rfl 3 Try.underlying22 Try.size3 _ n1 _ _ _ rfl rfl _ 3 hB1 (by rw [size_made]; omega) .i64 x1 H1.out.symm q1 ?_; intro w2 hB2 hs2 hb2)
      go_meet
      case rel => exact ⟨_, _, rfl, hB2.row p1.wf, hb1.trans ((hb1'.trans hb2).mono hb1.size)⟩
  case rest => as_aux_lemma =>
  clear p1 hb1 r1
  obtain ⟨A1, K1, rfl, p1, hb1⟩ := hcut
  have p2 := r2.keep hb1
  go_upto_if 100 with fail
  go_cut [1] (fun v wx => ∃ a k, v = .slice a n2 k ∧ Row .i64 wx A1 x1 ∧ Row .i64 wx a x2 ∧ Below w.heap.size w wx)
  case first => as_aux_lemma =>
    cases a2 with
    | none =>
      go_wp2
      go_meet
      case rel => exact ⟨_, _, rfl, p1, p2, hb1⟩
    | some a =>
      go_upto_region 11 with (first | (at_make; refine wpList_make_blk rfl _ _ 22 rfl 3 i3 (.int .i64 0) Try.underlying22 hi3 hy0 n2 n2 rfl rfl (Nat.le_refl _) (by rw [hy2]; omega) (by unfold maxLen; omega) ?_; intro w1 hB1 hs1 hb1'))
      rw [hy1] at hB1
      have q1 := p2.keep hb1'
      go_wp2_with (refine wpList_copy_blk rfl (.tmp 104) (.tmp 105) 22 22 rfl 3 Try.underlying22 Try.size3 _ n2 _ _ _ rfl rfl _ 3 hB1 (by rw [size_made]; omega) .i64 x2 H2.out.symm q1 ?_; intro w2 hB2 hs2 hb2)
      go_meet
      case rel => exact ⟨_, _, rfl, p1.keep (hb1'.trans hb2), hB2.row p2.wf, hb1.trans ((hb1'.trans hb2).mono hb1.size)⟩
  case rest => as_aux_lemma =>
  clear p1 p2 hb1 r2
  obtain ⟨A2, K2, rfl, p1, p2, hb1⟩ := hcut
  have p4 := r4.keep hb1
  go_upto_if 109 with fail
  go_cut [3] (fun v wx => ∃ a k, v = .slice a n4 k ∧ Row .i64 wx A1 x1 ∧ Row .i64 wx A2 x2 ∧ Row .i64 wx a x4 ∧ Below w.heap.size w wx)
  case first => as_aux_lemma =>
    cases a4 with
    | none =>
      go_wp2
      go_meet
      case rel => exact ⟨_, _, rfl, p1, p2, p4, hb1⟩
    | some a =>
      go_upto_region 15 with (first | (at_make; refine wpList_make_blk rfl _ _ 22 rfl 3 i3 (.int .i64 0) Try.underlying22 hi3 hy0 n4 n4 rfl rfl (Nat.le_refl _) (by rw [hy2]; omega) (by unfold maxLen; omega) ?_; intro w1 hB1 hs1 hb1'))
      rw [hy1] at hB1
      have q1 := p4.keep hb1'
      go_wp2_with (refine wpList_copy_blk rfl (.tmp 113) (.tmp 114) 22 22 rfl 3 Try.underlying22 Try.size3 _ n4 _ _ _ rfl rfl _ 3 hB1 (by rw [size_made]; omega) .i64 x4 H4.out.symm q1 ?_; intro w2 hB2 hs2 hb2)
      go_meet
      case rel => exact ⟨_, _, rfl, p1.keep (hb1'.trans hb2), p2.keep (hb1'.trans hb2), hB2.row p4.wf, hb1.trans ((hb1'.trans hb2).mono hb1.size)⟩
  case rest => as_aux_lemma =>
  clear p1 p2 p4 hb1 r4
  obtain ⟨A4, K4, rfl, p1, p2, p4, hb1⟩ := hcut
  have p7 := r7.keep hb1
  go_upto_if 118 with fail
  go_cut [6] (fun v wx => ∃ a k, v = .slice a n7 k ∧ Row .i64 wx A1 x1 ∧ Row .i64 wx A2 x2 ∧ Row .i64 wx A4 x4 ∧ Row .u64 wx a x7 ∧ Below w.heap.size w wx)
  case first => as_aux_lemma =>
    cases a7 with
    | none =>
      go_wp2
      go_meet
      case rel => exact ⟨_, _, rfl, p1, p2, p4, p7, hb1⟩
    | some a =>
      go_upto_region 19 with (first | (at_make; refine wpList_make_blk rfl _ _ 28 rfl 76 i76 (.int .u64 0) Try.underlying28 hi76 hx0 n7 n7 rfl rfl (Nat.le_refl _) (by rw [hx2]; omega) (by unfold maxLen; omega) ?_; intro w1 hB1 hs1 hb1'))
      rw [hx1] at hB1
      have q1 := p7.keep hb1'
      go_wp2_with (refine wpList_copy_blk rfl (.tmp 122) (.tmp 123) 28 28 rfl 76 Try.underlying28 Try.size76 _ n7 _ _ _ rfl rfl _ 76 hB1 (by rw [size_made]; omega) .u64 x7 H7.out.symm q1 ?_; intro w2 hB2 hs2 hb2)
      go_meet
      case rel => exact ⟨_, _, rfl, p1.keep (hb1'.trans hb2), p2.keep (hb1'.trans hb2), p4.keep (hb1'.trans hb2), hB2.row p7.wf, hb1.trans ((hb1'.trans hb2).mono hb1.size)⟩
  case rest => as_aux_lemma =>
  clear p1 p2 p4 p7 hb1 r7
  obtain ⟨A7, K7, rfl, p1, p2, p4, p7, hb1⟩ := hcut
  have p11 := r11.keep hb1
  go_upto_if 127 with fail
  go_cut [10] (fun v wx => ∃ a k, v = .slice a n11 k ∧ Row .i64 wx A1 x1 ∧ Row .i64 wx A2 x2 ∧ Row .i64 wx A4 x4 ∧ Row .u64 wx A7 x7 ∧ Row .u64 wx a x11 ∧ Below w.heap.size w wx)
  case first => as_aux_lemma =>
    cases a11 with
    | none =>
      go_wp2
      go_meet
      case rel => exact ⟨_, _, rfl, p1, p2, p4, p7, p11, hb1⟩
    | some a =>
      go_upto_region 23 with (first | (at_make; refine wpList_make_blk rfl _ _ 28 rfl 76 i76 (.int .u64 0) Try.underlying28 hi76 hx0 n11 n11 rfl rfl (Nat.le_refl _) (by rw [hx2]; omega) (by unfold maxLen; omega) ?_; intro w1 hB1 hs1 hb1'))
      rw [hx1] at hB1
      have q1 := p11.keep hb1'
      go_wp2_with (refine wpList_copy_blk rfl (.tmp 131) (.tmp 132) 28 28 rfl 76 Try.underlying28 Try.size76 _ n11 _ _ _ rfl rfl _ 76 hB1 (by rw [size_made]; omega) .u64 x11 H11.out.symm q1 ?_; intro w2 hB2 hs2 hb2)
      go_meet
      case rel => exact ⟨_, _, rfl, p1.keep (hb1'.trans hb2), p2.keep (hb1'.trans hb2), p4.keep (hb1'.trans hb2), p7.keep (hb1'.trans hb2), hB2.row p11.wf, hb1.trans ((hb1'.trans hb2).mono hb1.size)⟩
  case rest => as_aux_lemma =>
  clear p1 p2 p4 p7 p11 hb1 r11
  obtain ⟨A11, K11, rfl, p1, p2, p4, p7, p11, hb1⟩ := hcut
  have p3 := r3.keep hb1
  have pS := hS.keep hb1
  have hSe7 : SetOk wc A7 n7 := SetOk.of_row H7.out (by unfold maxLen; omega) p7
  have hSe11 : SetOk wc A11 n11 := SetOk.of_row H11.out (by unfold maxLen; omega) p11
  clear r3 hS p7 p11 hne hne'
  obtain ⟨W0, rfl⟩ : ∃ W0, W0 = wc := ⟨_, rfl⟩
  go_wp2_with fail
  go_loop [30, 31] (fun z i => ∃ (k t : Nat), k ≤ n3 ∧ i = .int .i64 k ∧ z = .int .i64 t ∧ t ≤ 32768) (fun _ i => n3 - (intOf i).toNat)
  case atStart => exact ⟨0, 0, Nat.zero_le _, rfl, rfl, Nat.zero_le _⟩
  case round =>
  obtain ⟨k, t, hk, rfl, rfl, ht⟩ := hrel
  by_cases hlt : k < n3
  case pos => as_aux_lemma =>
    obtain ⟨d, hd⟩ : ∃ d, ds[k]? = some d := ⟨ds[k]'(by have := H3.out; omega), by simp⟩
    have hsd := hsm' k d hlt hd
    obtain ⟨b, off, e, hc⟩ := p3 k d hd
    subst e
    obtain ⟨da, dn, dc⟩ := d
    have hsd : dn ≤ 1048576 := hsd
    have hlt' : (k : Int) < (n3 : Int) := by omega
    clear hd p3 pS
    by_cases g2 : t + dn ≤ 32768
    · go_wp2
      go_round
      case rel => exact ⟨k + 1, t + dn, by omega, by go_num, by go_num, g2⟩
      case measure => simp [intOf]; omega
    · go_wp2
      go_ret
      exact ⟨rfl, hb1⟩
  case neg => as_aux_lemma =>
  clear hk hsm'
  by_cases hsh : n2 = n1 ∧ n3 = n1 ∧ n4 = n1
  case neg =>
    go_wp2_with fail
    refine (shaped_no _ _ _ _ _ _ _ _ _ _ _ _ hsh _).mono ?_
    rintro e w' ⟨rfl, rfl⟩
    go_wp2
    go_ret
    exact ⟨rfl, hb1⟩
  obtain ⟨e2, e3, e4⟩ := hsh
  subst e2; subst e3; subst e4
  have HL : Hid (n4 = (mkL x1 x2 ds x4).length) := by
    show _ = _
    rw [mkL_length (by rw [← H1.out, ← H2.out]) (by rw [← H1.out, ← H3.out]) (by rw [← H1.out, ← H4.out]), ← H1.out]
  have hC := mkL_cols p1 p2 p3 p4
  have hF := mkL_sets (xs := x1) (ys := x2) (cs := x4) pS
  generalize mkL x1 x2 ds x4 = L at HL hC hF
  clear p1 p2 p3 p4 pS
  have hn6 : n4 ≤ 1000000 := by omega
  by_cases hab : v5 = v9
  case pos => as_aux_lemma =>
    have hab' : (v5 == v9) = true := by simp [hab]
    clear hab
    go_wp2_with fail
    refine (shaped_yes _ _ _ _ _ _ _ _ _ _).mono ?_
    rintro e w' ⟨rfl, rfl⟩
    go_wp2
    go_ret
    exact ⟨rfl, hb1⟩
  have hab' : (v5 == v9) = false := by simp [hab]
  have HAB : Hid (v5 ≠ v9) := hab
  clear hab
  obtain ⟨bv, hbv⟩ : ∃ b, Hid (validB L = b) := ⟨_, rfl⟩
  obtain ⟨ba, hba⟩ : ∃ b, Hid (newestB L v5 v6 = b) := ⟨_, rfl⟩
  obtain ⟨bb, hbb⟩ : ∃ b, Hid (newestB L v9 v10 = b) := ⟨_, rfl⟩
  go_wp2_with fail
  refine (shaped_yes _ _ _ _ _ _ _ _ _ _).mono ?_
  rintro e w' ⟨rfl, rfl⟩
  go_wp2_with fail
  refine (valid_is _ _ _ _ _ _ _ _ L bv hbv _ hn6 HL hC).mono ?_
  rintro e w' ⟨rfl, q0, rfl⟩
  cases bv with
  | false =>
    go_wp2
    go_ret
    exact ⟨rfl, below_draws hb1 _⟩
  | true =>
  go_wp2_with fail
  refine (newest_is _ _ _ _ _ _ _ L v5 v6 ba hba _ hn6 HL (by exact hC)).mono ?_
  rintro e w' ⟨rfl, rfl⟩
  cases ba with
  | false =>
    go_wp2
    go_ret
    exact ⟨rfl, below_draws hb1 _⟩
  | true => as_aux_lemma =>
  go_wp2_with fail
  refine (newest_is _ _ _ _ _ _ _ L v9 v10 bb hbb _ hn6 HL (by exact hC)).mono ?_
  rintro e w' ⟨rfl, rfl⟩
  cases bb with
  | false =>
    go_wp2
    go_ret
    exact ⟨rfl, below_draws hb1 _⟩
  | true => as_aux_lemma =>
  have hpw := valid_pairwise hbv.out
  obtain ⟨ea, hea⟩ : ∃ e : Ent, e = ⟨v5, v6, A7, n7, K7, v8⟩ := ⟨_, rfl⟩
  obtain ⟨eb, heb⟩ : ∃ e : Ent, e = ⟨v9, v10, A11, n11, K11, v12⟩ := ⟨_, rfl⟩
  have hna : ∀ f ∈ L, f.site = ea.site → f.ctr < ea.ctr := by rw [hea]; exact newest_iff.1 hba.out
  have hnb : ∀ f ∈ L, f.site = eb.site → f.ctr < eb.ctr := by rw [heb]; exact newest_iff.1 hbb.out
  have hsab : ea.site ≠ eb.site := by rw [hea, heb]; exact HAB.out
  have hsa : SetOk W0 ea.da ea.dn := by rw [hea]; exact hSe7
  have hsb : SetOk W0 eb.da eb.dn := by rw [heb]; exact hSe11
  have HEA : Hid (ea = ⟨v5, v6, A7, n7, K7, v8⟩) := hea
  have HEB : Hid (eb = ⟨v9, v10, A11, n11, K11, v12⟩) := heb
  have hpa := W_pairwise hpw hna
  have hpb := W_pairwise hpw hnb
  have hnab := W_newest hsab hnb
  have hnba := W_newest (fun h => hsab h.symm) hna
  have hpab := W_pairwise hpa hnab
  have i1 := with_is ea hpw
  have i2 := with_is eb hpa
  have i3' := with_is eb hpw
  have i4 := with_is ea hpb
  have hcm := W_comm (L := L) hsab
  have la := W_len ea hpw
  have lb := W_len eb hpa
  have lc := W_len eb hpw
  have cA := cnt_one hpab (mem_W_keep (e := eb) (mem_W_self ea L) hsab)
  have cB := cnt_one hpab (mem_W_self eb (W ea L))
  have vAB := valid_of_pairwise hpab
  have sAB : ∀ w', (∀ f ∈ L, SetOk w' f.da f.dn) → SetOk w' ea.da ea.dn → SetOk w' eb.da eb.dn → ∀ f ∈ W eb (W ea L), SetOk w' f.da f.dn := by
    intro w' hL ha hb f hf
    rcases mem_W hf with rfl | ⟨h, _⟩
    · exact hb
    · rcases mem_W h with rfl | ⟨h, _⟩
      · exact ha
      · exact hL f h
  clear hpw hna hnb hpa hpb hnab hnba hpab hea heb hSe7 hSe11 hbv hba hbb HAB hsab hab'
  generalize W ea L = La at i1 i2 hcm la lb cA cB vAB sAB
  generalize W eb L = Lb at i3' i4 hcm lc
  generalize W eb La = Lab at i2 hcm cA cB vAB sAB lb
  have eA : Hid (v5 = ea.site ∧ v6 = ea.ctr ∧ A7 = ea.da ∧ n7 = ea.dn ∧ K7 = ea.dc ∧ v8 = ea.cr) := by rw [HEA.out]; exact ⟨rfl, rfl, rfl, rfl, rfl, rfl⟩
  have eB : Hid (v9 = eb.site ∧ v10 = eb.ctr ∧ A11 = eb.da ∧ n11 = eb.dn ∧ K11 = eb.dc ∧ v12 = eb.cr) := by rw [HEB.out]; exact ⟨rfl, rfl, rfl, rfl, rfl, rfl⟩
  clear HEA HEB
  obtain ⟨y1, y2, y3, y4, y5, y6⟩ := eA.out
  obtain ⟨z1, z2, z3, z4, z5, z6⟩ := eB.out
  subst y1; subst y2; subst y3; subst y4; subst y5; subst y6
  subst z1; subst z2; subst z3; subst z4; subst z5; subst z6
  have I1 : Hid (purge (ins ea L) = La) := i1
  have I2 : Hid (purge (ins eb La) = Lab) := i2
  have I3 : Hid (purge (ins eb L) = Lb) := i3'
  have I4 : Hid (purge (ins ea Lb) = Lab) := i4.trans hcm.symm
  have C1 : Hid (cnt ea.site ea.ctr Lab = 1) := cA.1
  have C2 := cA.2
  have C3 : Hid (cnt eb.site eb.ctr Lab = 1) := cB.1
  have C4 := cB.2
  have VAB : Hid (validB Lab = true) := vAB
  have LA : Hid (La.length ≤ L.length + 1) := la
  have LB : Hid (Lb.length ≤ L.length + 1) := lc
  have LAB : Hid (Lab.length ≤ La.length + 1) := lb
  clear i1 i2 i3' i4 hcm cA cB vAB la lb lc eA eB
  go_wp2_with fail
  refine (zzwith_any _ _ _ _ _ _ _ _ _ L ea _ (by omega) HL (by exact hC)).mono ?_
  rintro x W1 ⟨B1, B2, B3, B4, m1', rfl, hm1, hC1, hbM1⟩
  have hbM1' : Below W0.heap.size W0 W1 := ⟨hbM1.os, hbM1.tape, hbM1.output, hbM1.size, hbM1.block⟩
  rw [I1.out] at hm1 hC1
  have HM1 : Hid (m1' = La.length) := hm1
  have hm1b : m1' ≤ 16385 := by have := LA.out; have := HL.out; omega
  have hCL1 := hC.keep hbM1'
  have hF1 : ∀ f ∈ L, SetOk W1 f.da f.dn := fun f hf => (hF f hf).keep hbM1'
  have hsa1 := hsa.keep hbM1'
  have hsb1 := hsb.keep hbM1'
  have hb2 : Below w.heap.size w W1 := hb1.trans (hbM1'.mono hb1.size)
  clear hm1 hbM1 hbM1' hC hF hsa hsb hb1 I1
  go_wp2_with fail
  refine (zzwith_any _ _ _ _ _ _ _ _ _ La eb _ (by omega) HM1 hC1).mono ?_
  rintro x W2 ⟨D1, D2, D3, D4, m2', rfl, hm2, hC2, hbM2⟩
  rw [I2.out] at hm2 hC2
  have HM2 : Hid (m2' = Lab.length) := hm2
  have hm2b : m2' ≤ 16386 := by have := LAB.out; have := HM1.out; omega
  have hCL2 := hCL1.keep hbM2
  have hF2 : ∀ f ∈ L, SetOk W2 f.da f.dn := fun f hf => (hF1 f hf).keep hbM2
  have hsa2 := hsa1.keep hbM2
  have hsb2 := hsb1.keep hbM2
  have hb3 : Below w.heap.size w W2 := hb2.trans (hbM2.mono hb2.size)
  clear hm2 hbM2 hC1 hCL1 hF1 hsa1 hsb1 hb2 I2
  go_wp2_with fail
  refine (zzwith_any _ _ _ _ _ _ _ _ _ L eb _ (by omega) HL hCL2).mono ?_
  rintro x W3 ⟨E1, E2, E3, E4, m3', rfl, hm3, hC3, hbM3⟩
  rw [I3.out] at hm3 hC3
  have HM3 : Hid (m3' = Lb.length) := hm3
  have hm3b : m3' ≤ 16385 := by have := LB.out; have := HL.out; omega
  have hCD3 := hC2.keep hbM3
  have hF3 : ∀ f ∈ L, SetOk W3 f.da f.dn := fun f hf => (hF2 f hf).keep hbM3
  have hsa3 := hsa2.keep hbM3
  have hsb3 := hsb2.keep hbM3
  have hb4 : Below w.heap.size w W3 := hb3.trans (hbM3.mono hb3.size)
  clear hm3 hbM3 hC2 hCL2 hF2 hsa2 hsb2 hb3 I3
  go_wp2_with fail
  refine (zzwith_any _ _ _ _ _ _ _ _ _ Lb ea _ (by omega) HM3 hC3).mono ?_
  rintro x W4 ⟨F1, F2, F3, F4, m4', rfl, hm4, hC4, hbM4⟩
  rw [I4.out, ← HM2.out] at hm4
  rw [I4.out] at hC4
  subst hm4
  have hCD4 := hCD3.keep hbM4
  have hF4 : ∀ f ∈ L, SetOk W4 f.da f.dn := fun f hf => (hF3 f hf).keep hbM4
  have hsa4 := hsa3.keep hbM4
  have hsb4 := hsb3.keep hbM4
  have hb5 : Below w.heap.size w W4 := hb4.trans (hbM4.mono hb4.size)
  have hSA := sAB W4 hF4 hsa4 hsb4
  clear hbM4 hC3 hCD3 hF3 hF4 hsa3 hsb3 hb4 I4 sAB LA LB LAB
  have hm2c : m4' ≤ 1000000 := by omega
  go_wp2_with fail
  refine (shaped_yes _ _ _ _ _ _ _ _ _ _).mono ?_
  rintro e w' ⟨rfl, rfl⟩
  go_wp2_with fail
  refine (sameLog_self _ _ _ _ _ _ _ _ _ _ _ _ _ _ _ _ _ Lab _ hm2c HM2 hCD4 hC4 hSA).mono ?_
  rintro e w' ⟨rfl, q1, rfl⟩
  go_wp2_with fail
  refine (valid_is _ _ _ _ _ _ _ _ Lab true VAB _ hm2c HM2 (by exact hCD4)).mono ?_
  rintro e w' ⟨rfl, q2, rfl⟩
  go_wp2_with fail
  refine (holds_one _ _ _ _ _ _ _ _ _ Lab ea _ hm2c HM2 (by exact hCD4) (by exact hsa4) C1 C2).mono ?_
  rintro e w' ⟨rfl, q3, rfl⟩
  go_wp2_with fail
  refine (holds_one _ _ _ _ _ _ _ _ _ Lab eb _ hm2c HM2 (by exact hCD4) (by exact hsb4) C3 C4).mono ?_
  rintro e w' ⟨rfl, q4, rfl⟩
  go_wp2
  go_ret
  exact ⟨rfl, below_draws hb5 _⟩

end Go.Proofs.Qxb6617269a
