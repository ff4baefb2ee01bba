import Derived.Test.Qxb6617269aFn7pre
namespace Go.Proofs.Qxb6617269a
open Go.RowKit
set_option linter.unusedVariables false

set_option maxRecDepth 100000 in
set_option maxHeartbeats 4000000 in
theorem fn6_walk (a1 a2 a3 a4 a9 : Option Addr) (n1 n2 n3 n4 n9 k1 k2 k3 k4 k9 : Nat) (v5 v6 v7 v8 v10 : Int) (x1 x2 x4 x9 : List Int) (ds : List (Option Addr × Nat × Nat)) (w : World)
    (h1 : n1 ≤ maxLen) (h2 : n2 ≤ maxLen) (h3 : n3 ≤ maxLen) (h4 : n4 ≤ maxLen) (h9 : n9 ≤ maxLen) (H1 : Hid (n1 = x1.length)) (H2 : Hid (n2 = x2.length)) (H3 : Hid (n3 = ds.length)) (H4 : Hid (n4 = x4.length)) (H9 : Hid (n9 = x9.length))
    (r1 : Row .i64 w a1 x1) (r2 : Row .i64 w a2 x2) (r3 : DRow w a3 ds) (r4 : Row .i64 w a4 x4) (r9 : Row .u64 w a9 x9) (hS : DOk w ds) :
    Calls Try.prog 6 #[.slice a1 n1 k1, .slice a2 n2 k2, .slice a3 n3 k3, .slice a4 n4 k4, .int .i64 v5, .int .i64 v6, .int .i64 v7, .int .i64 v8, .slice a9 n9 k9, .int .i64 v10] w fun e w' => e = .returned (.bool true) ∧ Below w.heap.size w w' := by
  obtain ⟨i3, hi3, hy0, hy1, hy2⟩ := info_parts Try.info3
  obtain ⟨i76, hi76, hx0, hx1, hx2⟩ := info_parts Try.info76
  have hne := fun wx a n c => run_neq_slice_nil_any (P := Try.prog) wx 22 3 a n c 0 0 Try.underlying22
  have hne' := fun wx a n c => run_neq_slice_nil_any (P := Try.prog) wx 28 76 a n c 0 0 Try.underlying28
  have hM : ∀ d ∈ ds, d.2.1 ≤ maxLen := fun d hd => by obtain ⟨us, h, h', _⟩ := hS d hd; exact h'
  go_enter Try.func6, Try.ntmps6
  go_wp2_with fail
  refine (bytes20 _ _ _ _ _ _ _ _ _ _ _ _ _ _ _ _ _ _ _ _ ds _ h1 h2 h3 h4 h9 H3 r3 hM).mono ?_
  rintro e w' ⟨b, rfl, rfl, hsm⟩
  cases b with
  | false =>
    go_wp2
    go_ret
    exact ⟨rfl, Below.refl _ _⟩
  | true =>
  have hsm' : SmallTo ds n3 := hsm.out rfl
  clear hsm hM h1 h2 h3 h4 h9
  by_cases m1 : n1 ≤ 16384
  case neg => as_aux_lemma =>
    go_wp2
    go_ret
    exact ⟨rfl, Below.refl _ _⟩
  by_cases m2 : n2 ≤ 16384
  case neg => as_aux_lemma =>
    go_wp2
    go_ret
    exact ⟨rfl, Below.refl _ _⟩
  by_cases m3 : n3 ≤ 16384
  case neg => as_aux_lemma =>
    go_wp2
    go_ret
    exact ⟨rfl, Below.refl _ _⟩
  by_cases m4 : n4 ≤ 16384
  case neg => as_aux_lemma =>
    go_wp2
    go_ret
    exact ⟨rfl, Below.refl _ _⟩
  by_cases m9 : n9 ≤ 16384
  case neg => as_aux_lemma =>
    go_wp2
    go_ret
    exact ⟨rfl, Below.refl _ _⟩
  have p1 := r1
  have hb1 : Below w.heap.size w w := Below.refl _ _
  go_upto_if 75 with fail
  go_cut [0] (fun v wx => ∃ a k, v = .slice a n1 k ∧ Row .i64 wx a x1 ∧ Below w.heap.size w wx)
  case first => as_aux_lemma =>
    cases a1 with
    | none =>
      go_wp2
      go_meet
      case rel => exact ⟨_, _, rfl, p1, hb1⟩
    | some a =>
      go_upto_region 7 with (first | (at_make; refine wpList_make_blk rfl _ _ 22 rfl 3 i3 (.int .i64 0) Try.underlying22 hi3 hy0 n1 n1 rfl rfl (Nat.le_refl _) (by rw [hy2]; omega) (by unfold maxLen; omega) ?_; intro w1 hB1 hs1 hb1'))
      rw [hy1] at hB1
      have q1 := p1.keep hb1'
      go_wp2_with (refine wpList_copy_blk rfl (.tmp 79) (.tmp 80) 22 22 rfl 3 Try.underlying22 Try.size3 _ n1 _ _ _ rfl rfl _ 3 hB1 (by rw [size_made]; omega) .i64 x1 H1.out.symm q1 ?_; intro w2 hB2 hs2 hb2)
      go_meet
      case rel => exact ⟨_, _, rfl, hB2.row p1.wf, hb1.trans ((hb1'.trans hb2).mono hb1.size)⟩
  case rest => as_aux_lemma =>
  clear p1 hb1 r1
  obtain ⟨A1, K1, rfl, p1, hb1⟩ := hcut
  have p2 := r2.keep hb1
  go_upto_if 84 with fail
  go_cut [1] (fun v wx => ∃ a k, v = .slice a n2 k ∧ Row .i64 wx A1 x1 ∧ Row .i64 wx a x2 ∧ Below w.heap.size w wx)
  case first => as_aux_lemma =>
    cases a2 with
    | none =>
      go_wp2
      go_meet
      case rel => exact ⟨_, _, rfl, p1, p2, hb1⟩
    | some a =>
      go_upto_region 11 with (first | (at_make; refine wpList_make_blk rfl _ _ 22 rfl 3 i3 (.int .i64 0) Try.underlying22 hi3 hy0 n2 n2 rfl rfl (Nat.le_refl _) (by rw [hy2]; omega) (by unfold maxLen; omega) ?_; intro w1 hB1 hs1 hb1'))
      rw [hy1] at hB1
      have q1 := p2.keep hb1'
      go_wp2_with (refine wpList_copy_blk rfl (.tmp 88) (.tmp 89) 22 22 rfl 3 Try.underlying22 Try.size3 _ n2 _ _ _ rfl rfl _ 3 hB1 (by rw [size_made]; omega) .i64 x2 H2.out.symm q1 ?_; intro w2 hB2 hs2 hb2)
      go_meet
      case rel => exact ⟨_, _, rfl, p1.keep (hb1'.trans hb2), hB2.row p2.wf, hb1.trans ((hb1'.trans hb2).mono hb1.size)⟩
  case rest => as_aux_lemma =>
  clear p1 p2 hb1 r2
  obtain ⟨A2, K2, rfl, p1, p2, hb1⟩ := hcut
  have p4 := r4.keep hb1
  go_upto_if 93 with fail
  go_cut [3] (fun v wx => ∃ a k, v = .slice a n4 k ∧ Row .i64 wx A1 x1 ∧ Row .i64 wx A2 x2 ∧ Row .i64 wx a x4 ∧ Below w.heap.size w wx)
  case first => as_aux_lemma =>
    cases a4 with
    | none =>
      go_wp2
      go_meet
      case rel => exact ⟨_, _, rfl, p1, p2, p4, hb1⟩
    | some a =>
      go_upto_region 15 with (first | (at_make; refine wpList_make_blk rfl _ _ 22 rfl 3 i3 (.int .i64 0) Try.underlying22 hi3 hy0 n4 n4 rfl rfl (Nat.le_refl _) (by rw [hy2]; omega) (by unfold maxLen; omega) ?_; intro w1 hB1 hs1 hb1'))
      rw [hy1] at hB1
      have q1 := p4.keep hb1'
      go_wp2_with (refine wpList_copy_blk rfl (.tmp 97) (.tmp 98) 22 22 rfl 3 Try.underlying22 Try.size3 _ n4 _ _ _ rfl rfl _ 3 hB1 (by rw [size_made]; omega) .i64 x4 H4.out.symm q1 ?_; intro w2 hB2 hs2 hb2)
      go_meet
      case rel => exact ⟨_, _, rfl, p1.keep (hb1'.trans hb2), p2.keep (hb1'.trans hb2), hB2.row p4.wf, hb1.trans ((hb1'.trans hb2).mono hb1.size)⟩
  case rest => as_aux_lemma =>
  clear p1 p2 p4 hb1 r4
  obtain ⟨A4, K4, rfl, p1, p2, p4, hb1⟩ := hcut
  have p9 := r9.keep hb1
  go_upto_if 102 with fail
  go_cut [8] (fun v wx => ∃ a k, v = .slice a n9 k ∧ Row .i64 wx A1 x1 ∧ Row .i64 wx A2 x2 ∧ Row .i64 wx A4 x4 ∧ Row .u64 wx a x9 ∧ Below w.heap.size w wx)
  case first => as_aux_lemma =>
    cases a9 with
    | none =>
      go_wp2
      go_meet
      case rel => exact ⟨_, _, rfl, p1, p2, p4, p9, hb1⟩
    | some a =>
      go_upto_region 19 with (first | (at_make; refine wpList_make_blk rfl _ _ 28 rfl 76 i76 (.int .u64 0) Try.underlying28 hi76 hx0 n9 n9 rfl rfl (Nat.le_refl _) (by rw [hx2]; omega) (by unfold maxLen; omega) ?_; intro w1 hB1 hs1 hb1'))
      rw [hx1] at hB1
      have q1 := p9.keep hb1'
      go_wp2_with (refine wpList_copy_blk rfl (.tmp 106) (.tmp 107) 28 28 rfl 76 Try.underlying28 Try.size76 _ n9 _ _ _ rfl rfl _ 76 hB1 (by rw [size_made]; omega) .u64 x9 H9.out.symm q1 ?_; intro w2 hB2 hs2 hb2)
      go_meet
      case rel => exact ⟨_, _, rfl, p1.keep (hb1'.trans hb2), p2.keep (hb1'.trans hb2), p4.keep (hb1'.trans hb2), hB2.row p9.wf, hb1.trans ((hb1'.trans hb2).mono hb1.size)⟩
  case rest => as_aux_lemma =>
  clear p1 p2 p4 p9 hb1 r9
  obtain ⟨A9, K9, rfl, p1, p2, p4, p9, hb1⟩ := hcut
  have p3 := r3.keep hb1
  have pS := hS.keep hb1
  have hSe9 : SetOk wc A9 n9 := SetOk.of_row H9.out (by unfold maxLen; omega) p9
  clear r3 hS p9 hne hne'
  obtain ⟨W0, rfl⟩ : ∃ W0, W0 = wc := ⟨_, rfl⟩
  go_wp2_with fail
  go_loop [25, 26] (fun z i => ∃ (k t : Nat), k ≤ n3 ∧ i = .int .i64 k ∧ z = .int .i64 t ∧ t ≤ 32768) (fun _ i => n3 - (intOf i).toNat)
  case atStart => exact ⟨0, 0, Nat.zero_le _, rfl, rfl, Nat.zero_le _⟩
  case round =>
  obtain ⟨k, t, hk, rfl, rfl, ht⟩ := hrel
  by_cases hlt : k < n3
  case pos => as_aux_lemma =>
    obtain ⟨d, hd⟩ : ∃ d, ds[k]? = some d := ⟨ds[k]'(by have := H3.out; omega), by simp⟩
    have hsd := hsm' k d hlt hd
    obtain ⟨b, off, e, hc⟩ := p3 k d hd
    subst e
    obtain ⟨da, dn, dc⟩ := d
    have hsd : dn ≤ 1048576 := hsd
    have hlt' : (k : Int) < (n3 : Int) := by omega
    clear hd p3 pS
    by_cases g2 : t + dn ≤ 32768
    · go_wp2
      go_round
      case rel => exact ⟨k + 1, t + dn, by omega, by go_num, by go_num, g2⟩
      case measure => simp [intOf]; omega
    · go_wp2
      go_ret
      exact ⟨rfl, hb1⟩
  case neg => as_aux_lemma =>
  clear hk hsm'
  by_cases hsh : n2 = n1 ∧ n3 = n1 ∧ n4 = n1
  case neg =>
    go_wp2_with fail
    refine (shaped_no _ _ _ _ _ _ _ _ _ _ _ _ hsh _).mono ?_
    rintro e w' ⟨rfl, rfl⟩
    go_wp2
    go_ret
    exact ⟨rfl, hb1⟩
  obtain ⟨e2, e3, e4⟩ := hsh
  subst e2; subst e3; subst e4
  have HL : Hid (n4 = (mkL x1 x2 ds x4).length) := by
    show _ = _
    rw [mkL_length (by rw [← H1.out, ← H2.out]) (by rw [← H1.out, ← H3.out]) (by rw [← H1.out, ← H4.out]), ← H1.out]
  have hC := mkL_cols p1 p2 p3 p4
  have hF := mkL_sets (xs := x1) (ys := x2) (cs := x4) pS
  generalize mkL x1 x2 ds x4 = L at HL hC hF
  clear p1 p2 p3 p4 pS
  have hn6 : n4 ≤ 1000000 := by omega
  obtain ⟨bv, hbv⟩ : ∃ b, Hid (validB L = b) := ⟨_, rfl⟩
  obtain ⟨ba, hba⟩ : ∃ b, Hid (newestB L v5 v6 = b) := ⟨_, rfl⟩
  go_wp2_with fail
  refine (shaped_yes _ _ _ _ _ _ _ _ _ _).mono ?_
  rintro e w' ⟨rfl, rfl⟩
  go_wp2_with fail
  refine (valid_is _ _ _ _ _ _ _ _ L bv hbv _ hn6 HL hC).mono ?_
  rintro e w' ⟨rfl, q0, rfl⟩
  cases bv with
  | false =>
    go_wp2
    go_ret
    exact ⟨rfl, below_draws hb1 _⟩
  | true =>
  go_wp2_with fail
  refine (newest_is _ _ _ _ _ _ _ L v5 v6 ba hba _ hn6 HL (by exact hC)).mono ?_
  rintro e w' ⟨rfl, rfl⟩
  cases ba with
  | false =>
    go_wp2
    go_ret
    exact ⟨rfl, below_draws hb1 _⟩
  | true => as_aux_lemma =>
  by_cases hsb : v8 ≤ v6
  case pos => as_aux_lemma =>
    go_wp2
    go_ret
    exact ⟨rfl, below_draws hb1 _⟩
  have hlt2 : v6 < v8 := by omega
  clear hsb
  have hpw := valid_pairwise hbv.out
  have hns := newest_iff.1 hba.out
  obtain ⟨Ls, hLs⟩ : ∃ M, M = W ⟨v5, v6, none, 0, 0, v7⟩ L := ⟨_, rfl⟩
  obtain ⟨Lb, hLb⟩ : ∃ M, M = W ⟨v5, v8, A9, n9, K9, v10⟩ L := ⟨_, rfl⟩
  have hps : Ls.Pairwise R := by rw [hLs]; exact W_pairwise hpw hns
  have hnb : ∀ f ∈ L, f.site = v5 → f.ctr < v8 := fun f hf h => by have := hns f hf h; omega
  have hpb : Lb.Pairwise R := by rw [hLb]; exact W_pairwise hpw hnb
  have I1 : Hid (purge (ins ⟨v5, v6, none, 0, 0, v7⟩ L) = Ls) := by rw [hLs]; exact with_is _ hpw
  have I2 : Hid (purge (ins ⟨v5, v8, A9, n9, K9, v10⟩ Ls) = Lb) := by
    show _ = _
    rw [with_is _ hps, hLs, hLb]
    exact W_forgets rfl rfl
  have I3 : Hid (purge (ins ⟨v5, v8, A9, n9, K9, v10⟩ L) = Lb) := by rw [hLb]; exact with_is _ hpw
  have LS : Hid (Ls.length ≤ L.length + 1) := by rw [hLs]; exact W_len _ hpw
  have LB : Hid (Lb.length ≤ L.length + 1) := by rw [hLb]; exact W_len _ hpw
  have cB := cnt_one hpb (by rw [hLb]; exact mem_W_self ⟨v5, v8, A9, n9, K9, v10⟩ L)
  have C3 : Hid (cnt v5 v8 Lb = 1) := cB.1
  have C4 := cB.2
  have hno : ∀ f ∈ Lb, ¬ (f.site = v5 ∧ f.ctr = v6) := by
    intro f hf ⟨h1, h2⟩
    rw [hLb] at hf
    rcases mem_W hf with rfl | ⟨h, _⟩
    · simp only [] at h2; omega
    · have := hns f h h1; omega
  have sB : ∀ w', (∀ f ∈ L, SetOk w' f.da f.dn) → SetOk w' A9 n9 → ∀ f ∈ Lb, SetOk w' f.da f.dn := by
    intro w' hL hb f hf
    rw [hLb] at hf
    rcases mem_W hf with rfl | ⟨h, _⟩
    · exact hb
    · exact hL f h
  clear hpw hns hps hnb hpb hLs hLb cB hbv hba
  go_wp2_with fail
  refine (zzwith_any _ _ _ _ _ _ _ _ _ L ⟨v5, v6, none, 0, 0, v7⟩ _ (by omega) HL (by exact hC)).mono ?_
  rintro x W1 ⟨B1, B2, B3, B4, m1', rfl, hm1, hC1, hbM1⟩
  have hbM1' : Below W0.heap.size W0 W1 := ⟨hbM1.os, hbM1.tape, hbM1.output, hbM1.size, hbM1.block⟩
  rw [I1.out] at hm1 hC1
  have HM1 : Hid (m1' = Ls.length) := hm1
  have hm1b : m1' ≤ 16385 := by have := LS.out; have := HL.out; omega
  have hCL1 := hC.keep hbM1'
  have hF1 : ∀ f ∈ L, SetOk W1 f.da f.dn := fun f hf => (hF f hf).keep hbM1'
  have hsb1 := hSe9.keep hbM1'
  have hb2 : Below w.heap.size w W1 := hb1.trans (hbM1'.mono hb1.size)
  clear hm1 hbM1 hbM1' hC hF hSe9 hb1 I1
  go_wp2_with fail
  refine (zzwith_any _ _ _ _ _ _ _ _ _ Ls ⟨v5, v8, A9, n9, K9, v10⟩ _ (by omega) HM1 hC1).mono ?_
  rintro x W2 ⟨D1, D2, D3, D4, m2', rfl, hm2, hC2, hbM2⟩
  rw [I2.out] at hm2 hC2
  have HM2 : Hid (m2' = Lb.length) := hm2
  have hm2b : m2' ≤ 16385 := by have := LB.out; have := HL.out; omega
  have hCL2 := hCL1.keep hbM2
  have hF2 : ∀ f ∈ L, SetOk W2 f.da f.dn := fun f hf => (hF1 f hf).keep hbM2
  have hsb2 := hsb1.keep hbM2
  have hb3 : Below w.heap.size w W2 := hb2.trans (hbM2.mono hb2.size)
  clear hm2 hbM2 hC1 hCL1 hF1 hsb1 hb2 I2
  go_wp2_with fail
  refine (zzwith_any _ _ _ _ _ _ _ _ _ L ⟨v5, v8, A9, n9, K9, v10⟩ _ (by omega) HL hCL2).mono ?_
  rintro x W3 ⟨E1, E2, E3, E4, m3', rfl, hm3, hC3, hbM3⟩
  rw [I3.out, ← HM2.out] at hm3
  rw [I3.out] at hC3
  subst hm3
  have hCD3 := hC2.keep hbM3
  have hF3 : ∀ f ∈ L, SetOk W3 f.da f.dn := fun f hf => (hF2 f hf).keep hbM3
  have hsb3 := hsb2.keep hbM3
  have hb4 : Below w.heap.size w W3 := hb3.trans (hbM3.mono hb3.size)
  have hSA := sB W3 hF3 hsb3
  clear hbM3 hC2 hCL2 hF2 hsb2 hb3 I3 sB LS LB hF3
  have hm2c : m3' ≤ 1000000 := by omega
  go_wp2_with fail
  refine (shaped_yes _ _ _ _ _ _ _ _ _ _).mono ?_
  rintro e w' ⟨rfl, rfl⟩
  go_wp2_with fail
  refine (sameLog_self _ _ _ _ _ _ _ _ _ _ _ _ _ _ _ _ _ Lb _ hm2c HM2 hCD3 hC3 hSA).mono ?_
  rintro e w' ⟨rfl, q1, rfl⟩
  go_wp2_with fail
  refine (holds_one _ _ _ _ _ _ _ _ _ Lb ⟨v5, v8, A9, n9, K9, v10⟩ _ hm2c HM2 (by exact hC3) (by exact hsb3) C3 C4).mono ?_
  rintro e w' ⟨rfl, q3, rfl⟩
  go_wp2_with fail
  refine (hasID_no _ _ _ _ _ _ _ Lb v5 v6 _ hm2c HM2 (by exact hCD3) hno).mono ?_
  rintro e w' ⟨rfl, rfl⟩
  go_wp2
  go_ret
  exact ⟨rfl, below_draws hb4 _⟩

end Go.Proofs.Qxb6617269a
