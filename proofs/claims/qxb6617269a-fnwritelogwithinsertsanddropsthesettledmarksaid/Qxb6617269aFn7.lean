import Derived.Test.Qxb6617269aFn7pre
import Derived.Test.Qxb6617269aPass
namespace Go.Proofs.Qxb6617269a
open Go.RowKit
set_option linter.unusedVariables false

set_option maxRecDepth 100000 in
set_option maxHeartbeats 4000000 in
theorem fn7_walk (a1 a2 a3 a4 a7 : Option Addr) (n1 n2 n3 n4 n7 k1 k2 k3 k4 k7 : Nat) (s c r : Int) (xs ys cs us : List Int) (ds : List (Option Addr × Nat × Nat)) (w : World)
    (h1 : n1 ≤ maxLen) (h2 : n2 ≤ maxLen) (h3 : n3 ≤ maxLen) (h4 : n4 ≤ maxLen) (h7 : n7 ≤ maxLen) (H1 : Hid (n1 = xs.length)) (H2 : Hid (n2 = ys.length)) (H3 : Hid (n3 = ds.length)) (H4 : Hid (n4 = cs.length)) (H7 : Hid (n7 = us.length))
    (r1 : Row .i64 w a1 xs) (r2 : Row .i64 w a2 ys) (r3 : DRow w a3 ds) (r4 : Row .i64 w a4 cs) (r7 : Row .u64 w a7 us) (hS : DOk w ds) :
    Calls Try.prog 7 #[.slice a1 n1 k1, .slice a2 n2 k2, .slice a3 n3 k3, .slice a4 n4 k4, .int .i64 s, .int .i64 c, .slice a7 n7 k7, .int .i64 r] w fun e w' => e = .returned (.bool true) ∧ Below w.heap.size w w' := by
  obtain ⟨i3, hi3, hy0, hy1, hy2⟩ := info_parts Try.info3
  obtain ⟨i76, hi76, hx0, hx1, hx2⟩ := info_parts Try.info76
  have hne := fun wx a n c => run_neq_slice_nil_any (P := Try.prog) wx 22 3 a n c 0 0 Try.underlying22
  have hne' := fun wx a n c => run_neq_slice_nil_any (P := Try.prog) wx 28 76 a n c 0 0 Try.underlying28
  have hM : ∀ d ∈ ds, d.2.1 ≤ maxLen := fun d hd => by obtain ⟨us, h, h', _⟩ := hS d hd; exact h'
  go_enter Try.func7, Try.ntmps7
  go_wp2_with fail
  refine (bytes22 _ _ _ _ _ _ _ _ _ _ _ _ _ _ _ _ _ _ ds _ h1 h2 h3 h4 h7 H3 r3 hM).mono ?_
  rintro e w' ⟨b, rfl, rfl, hsm⟩
  cases b with
  | false =>
    go_wp2
    go_ret
    exact ⟨rfl, Below.refl _ _⟩
  | true =>
  have hsm' : SmallTo ds n3 := hsm.out rfl
  clear hsm hM h1 h2 h3 h4 h7
  by_cases m1 : n1 ≤ 16384
  case neg =>
    go_wp2
    go_ret
    exact ⟨rfl, Below.refl _ _⟩
  by_cases m2 : n2 ≤ 16384
  case neg =>
    go_wp2
    go_ret
    exact ⟨rfl, Below.refl _ _⟩
  by_cases m3 : n3 ≤ 16384
  case neg =>
    go_wp2
    go_ret
    exact ⟨rfl, Below.refl _ _⟩
  by_cases m4 : n4 ≤ 16384
  case neg =>
    go_wp2
    go_ret
    exact ⟨rfl, Below.refl _ _⟩
  by_cases m7 : n7 ≤ 16384
  case neg =>
    go_wp2
    go_ret
    exact ⟨rfl, Below.refl _ _⟩
  go_upto_if 65 with fail
  go_cut [0] (fun v wx => ∃ a k, v = .slice a n1 k ∧ Row .i64 wx a xs ∧ Below w.heap.size w wx)
  case first => as_aux_lemma =>
    cases a1 with
    | none =>
      go_wp2
      go_meet
      case rel => exact ⟨_, _, rfl, r1, Below.refl _ _⟩
    | some a =>
      go_upto_region 7 with (first | (at_make; refine wpList_make_blk rfl _ _ 22 rfl 3 i3 (.int .i64 0) Try.underlying22 hi3 hy0 n1 n1 rfl rfl (Nat.le_refl _) (by rw [hy2]; omega) (by unfold maxLen; omega) ?_; intro w1 hB1 hs1 hb1))
      rw [hy1] at hB1
      have q1 := r1.keep hb1
      go_wp2_with (refine wpList_copy_blk rfl (.tmp 69) (.tmp 70) 22 22 rfl 3 Try.underlying22 Try.size3 _ n1 _ _ _ rfl rfl _ 3 hB1 (by rw [size_made]; omega) .i64 xs H1.out.symm q1 ?_; intro w2 hB2 hs2 hb2)
      go_meet
      case rel => exact ⟨_, _, rfl, hB2.row r1.wf, hb1.trans hb2⟩
  case rest => as_aux_lemma =>
  obtain ⟨A1, K1, rfl, p1, hb1⟩ := hcut
  have p2 := r2.keep hb1
  clear r1
  go_upto_if 74 with fail
  go_cut [1] (fun v wx => ∃ a k, v = .slice a n2 k ∧ Row .i64 wx A1 xs ∧ Row .i64 wx a ys ∧ Below w.heap.size w wx)
  case first => as_aux_lemma =>
    cases a2 with
    | none =>
      go_wp2
      go_meet
      case rel => exact ⟨_, _, rfl, p1, p2, hb1⟩
    | some a =>
      go_upto_region 11 with (first | (at_make; refine wpList_make_blk rfl _ _ 22 rfl 3 i3 (.int .i64 0) Try.underlying22 hi3 hy0 n2 n2 rfl rfl (Nat.le_refl _) (by rw [hy2]; omega) (by unfold maxLen; omega) ?_; intro w1 hB1 hs1 hb1'))
      rw [hy1] at hB1
      have q1 := p2.keep hb1'
      go_wp2_with (refine wpList_copy_blk rfl (.tmp 78) (.tmp 79) 22 22 rfl 3 Try.underlying22 Try.size3 _ n2 _ _ _ rfl rfl _ 3 hB1 (by rw [size_made]; omega) .i64 ys H2.out.symm q1 ?_; intro w2 hB2 hs2 hb2)
      go_meet
      case rel => exact ⟨_, _, rfl, p1.keep (hb1'.trans hb2), hB2.row p2.wf, hb1.trans ((hb1'.trans hb2).mono hb1.size)⟩
  case rest => as_aux_lemma =>
  clear p1 p2 hb1 r2
  obtain ⟨A2, K2, rfl, p1, p2, hb1⟩ := hcut
  have p4 := r4.keep hb1
  go_upto_if 83 with fail
  go_cut [3] (fun v wx => ∃ a k, v = .slice a n4 k ∧ Row .i64 wx A1 xs ∧ Row .i64 wx A2 ys ∧ Row .i64 wx a cs ∧ Below w.heap.size w wx)
  case first => as_aux_lemma =>
    cases a4 with
    | none =>
      go_wp2
      go_meet
      case rel => exact ⟨_, _, rfl, p1, p2, p4, hb1⟩
    | some a =>
      go_upto_region 15 with (first | (at_make; refine wpList_make_blk rfl _ _ 22 rfl 3 i3 (.int .i64 0) Try.underlying22 hi3 hy0 n4 n4 rfl rfl (Nat.le_refl _) (by rw [hy2]; omega) (by unfold maxLen; omega) ?_; intro w1 hB1 hs1 hb1'))
      rw [hy1] at hB1
      have q1 := p4.keep hb1'
      go_wp2_with (refine wpList_copy_blk rfl (.tmp 87) (.tmp 88) 22 22 rfl 3 Try.underlying22 Try.size3 _ n4 _ _ _ rfl rfl _ 3 hB1 (by rw [size_made]; omega) .i64 cs H4.out.symm q1 ?_; intro w2 hB2 hs2 hb2)
      go_meet
      case rel => exact ⟨_, _, rfl, p1.keep (hb1'.trans hb2), p2.keep (hb1'.trans hb2), hB2.row p4.wf, hb1.trans ((hb1'.trans hb2).mono hb1.size)⟩
  case rest => as_aux_lemma =>
  clear p1 p2 p4 hb1 r4
  obtain ⟨A4, K4, rfl, p1, p2, p4, hb1⟩ := hcut
  have p7 := r7.keep hb1
  go_upto_if 92 with fail
  go_cut [6] (fun v wx => ∃ a k, v = .slice a n7 k ∧ Row .i64 wx A1 xs ∧ Row .i64 wx A2 ys ∧ Row .i64 wx A4 cs ∧ Row .u64 wx a us ∧ Below w.heap.size w wx)
  case first => as_aux_lemma =>
    cases a7 with
    | none =>
      go_wp2
      go_meet
      case rel => exact ⟨_, _, rfl, p1, p2, p4, p7, hb1⟩
    | some a =>
      go_upto_region 19 with (first | (at_make; refine wpList_make_blk rfl _ _ 28 rfl 76 i76 (.int .u64 0) Try.underlying28 hi76 hx0 n7 n7 rfl rfl (Nat.le_refl _) (by rw [hx2]; omega) (by unfold maxLen; omega) ?_; intro w1 hB1 hs1 hb1'))
      rw [hx1] at hB1
      have q1 := p7.keep hb1'
      go_wp2_with (refine wpList_copy_blk rfl (.tmp 96) (.tmp 97) 28 28 rfl 76 Try.underlying28 Try.size76 _ n7 _ _ _ rfl rfl _ 76 hB1 (by rw [size_made]; omega) .u64 us H7.out.symm q1 ?_; intro w2 hB2 hs2 hb2)
      go_meet
      case rel => exact ⟨_, _, rfl, p1.keep (hb1'.trans hb2), p2.keep (hb1'.trans hb2), p4.keep (hb1'.trans hb2), hB2.row p7.wf, hb1.trans ((hb1'.trans hb2).mono hb1.size)⟩
  case rest => as_aux_lemma =>
  clear p1 p2 p4 p7 hb1 r7
  obtain ⟨A7, K7, rfl, p1, p2, p4, p7, hb1⟩ := hcut
  have p3 := r3.keep hb1
  have pS := hS.keep hb1
  have hSe : SetOk wc A7 n7 := SetOk.of_row H7.out (by unfold maxLen; omega) p7
  clear r3 hS p7 hne
  obtain ⟨W0, rfl⟩ : ∃ W0, W0 = wc := ⟨_, rfl⟩
  go_wp2_with fail
  go_loop [21, 22] (fun z i => ∃ (k t : Nat), k ≤ n3 ∧ i = .int .i64 k ∧ z = .int .i64 t ∧ t ≤ 32768) (fun _ i => n3 - (intOf i).toNat)
  case atStart => exact ⟨0, 0, Nat.zero_le _, rfl, rfl, Nat.zero_le _⟩
  case round =>
  obtain ⟨k, t, hk, rfl, rfl, ht⟩ := hrel
  by_cases hlt : k < n3
  case pos => as_aux_lemma =>
    obtain ⟨d, hd⟩ : ∃ d, ds[k]? = some d := ⟨ds[k]'(by have := H3.out; omega), by simp⟩
    have hsd := hsm' k d hlt hd
    obtain ⟨b, off, e, hc⟩ := p3 k d hd
    subst e
    obtain ⟨da, dn, dc⟩ := d
    have hsd : dn ≤ 1048576 := hsd
    have hlt' : (k : Int) < (n3 : Int) := by omega
    clear hd p3 pS
    by_cases g2 : t + dn ≤ 32768
    · go_wp2
      go_round
      case rel => exact ⟨k + 1, t + dn, by omega, by go_num, by go_num, g2⟩
      case measure => simp [intOf]; omega
    · go_wp2
      go_ret
      exact ⟨rfl, hb1⟩
  case neg => as_aux_lemma =>
  clear hk hsm'
  by_cases hsh : n2 = n1 ∧ n3 = n1 ∧ n4 = n1
  case neg =>
    go_wp2_with fail
    refine (shaped_no _ _ _ _ _ _ _ _ _ _ _ _ hsh _).mono ?_
    rintro e w' ⟨rfl, rfl⟩
    go_wp2
    go_ret
    exact ⟨rfl, hb1⟩
  obtain ⟨e2, e3, e4⟩ := hsh
  subst e2; subst e3; subst e4
  have HL : Hid (n4 = (mkL xs ys ds cs).length) := by
    show _ = _
    rw [mkL_length (by rw [← H1.out, ← H2.out]) (by rw [← H1.out, ← H3.out]) (by rw [← H1.out, ← H4.out]), ← H1.out]
  have hC := mkL_cols p1 p2 p3 p4
  have hF := mkL_sets (xs := xs) (ys := ys) (cs := cs) pS
  generalize mkL xs ys ds cs = L at HL hC hF
  clear p1 p2 p3 p4 pS
  have hn6 : n4 ≤ 1000000 := by omega
  obtain ⟨bv, hbv⟩ : ∃ b, Hid (validB L = b) := ⟨_, rfl⟩
  obtain ⟨bn, hbn⟩ : ∃ b, Hid (newestB L s c = b) := ⟨_, rfl⟩
  go_wp2_with fail
  refine (shaped_yes _ _ _ _ _ _ _ _ _ _).mono ?_
  rintro e w' ⟨rfl, rfl⟩
  go_wp2_with fail
  refine (valid_is _ _ _ _ _ _ _ _ L bv hbv _ hn6 HL hC).mono ?_
  rintro e w' ⟨rfl, q0, rfl⟩
  cases bv with
  | false =>
    go_wp2
    go_ret
    exact ⟨rfl, below_draws hb1 _⟩
  | true =>
  go_wp2_with fail
  refine (newest_is _ _ _ _ _ _ _ L s c bn hbn _ hn6 HL (by exact hC)).mono ?_
  rintro e w' ⟨rfl, rfl⟩
  cases bn with
  | false =>
    go_wp2
    go_ret
    exact ⟨rfl, below_draws hb1 _⟩
  | true => as_aux_lemma =>
  go_wp2_with fail
  refine (zzwith_any _ _ _ _ _ _ _ _ _ L ⟨s, c, A7, n7, K7, r⟩ _ (by omega) HL (by exact hC)).mono ?_
  rintro x W1 ⟨B1, B2, B3, B4, m, rfl, hm, hCM, hbM⟩
  have hpw := valid_pairwise hbv.out
  rw [with_is _ hpw] at hm hCM
  have hbM' : Below W0.heap.size W0 W1 := ⟨hbM.os, hbM.tape, hbM.output, hbM.size, hbM.block⟩
  have hC1 : Cols W1 A1 A2 a3 A4 L := hC.keep hbM'
  have hF1 : ∀ f ∈ L, SetOk W1 f.da f.dn := fun f hf => (hF f hf).keep hbM'
  have hSe1 : SetOk W1 A7 n7 := hSe.keep hbM'
  have hbW : Below w.heap.size w W1 := hb1.trans (hbM'.mono hb1.size)
  obtain ⟨M, hMM⟩ : ∃ M, M = W ⟨s, c, A7, n7, K7, r⟩ L := ⟨_, rfl⟩
  rw [← hMM] at hm hCM
  have HM : Hid (m = M.length) := hm
  have hmn : m ≤ 16385 := by
    have h := congrArg List.length (with_is ⟨s, c, A7, n7, K7, r⟩ hpw)
    have h2 := purge_length (ins ⟨s, c, A7, n7, K7, r⟩ L)
    rw [ins_length] at h2
    have := HL.out
    rw [hm, hMM, ← h]
    omega
  have HT0 : Hid (M.drop 0 = tail 0 ⟨s, c, A7, n7, K7, r⟩ L) := by show _ = _; rw [List.drop_zero, hMM]; rfl
  clear hm hMM hpw hbM hbM' hC hF hSe hb1 hbv hbn
  go_wp2_with fail
  refine (shaped_yes _ _ _ _ _ _ _ _ _ _).mono ?_
  rintro e w' ⟨rfl, rfl⟩
  go_wp2_with fail
  go_loopw [27, 28] (fun jv pv wx => ∃ (j p q : Nat), p ≤ 3 ∧ pv = .int .i64 p ∧ jv = .int .i64 j ∧ j ≤ m ∧ Hid (M.drop j = tail p ⟨s, c, A7, n7, K7, r⟩ L) ∧ wx = W1.drewN q) (fun _ pv _ => 3 - (intOf pv).toNat)
  case atStart => exact ⟨0, 0, 0, by omega, rfl, rfl, Nat.zero_le _, HT0, rfl⟩
  case round =>
  clear HT0
  obtain ⟨j, p, q, hp, rfl, rfl, hjm, hT, rfl⟩ := hrel
  have hp4 : p = 0 ∨ p = 1 ∨ p = 2 ∨ p = 3 := by omega
  clear hp
  rcases hp4 with rfl | rfl | rfl | rfl
  · as_aux_lemma =>
    have hI0 : Inv 0 ⟨s, c, A7, n7, K7, r⟩ L M j 0 := Inv.start (by omega) hT.out
    clear hT
    go_wp2_with fail
    go_loopw [27, 29] (fun jv kv wx => ∃ (j k q : Nat), k ≤ n4 ∧ kv = .int .i64 k ∧ jv = .int .i64 j ∧ j ≤ m ∧ Inv 0 ⟨s, c, A7, n7, K7, r⟩ L M j k ∧ wx = W1.drewN q) (fun _ kv _ => n4 - (intOf kv).toNat)
    case atStart => exact ⟨j, 0, _, Nat.zero_le _, rfl, rfl, hjm, hI0, rfl⟩
    case round =>
      clear hI0 hjm
      obtain ⟨j, k, q, hk, rfl, rfl, hjm, hI, rfl⟩ := hrel
      by_cases hkn : k < n4
      · obtain ⟨f, hf⟩ : ∃ f, L[k]? = some f := ⟨L[k]'(by have := HL.out; omega), by simp⟩
        have hsf := hF1 f (List.mem_of_getElem? hf)
        have hkn' : (k : Int) < (n4 : Int) := by omega
        obtain ⟨⟨b1, o1, e1, c1⟩, ⟨b2, o2, e2, c2⟩, ⟨b3, o3, e3, c3⟩, ⟨b4, o4, e4, c4⟩⟩ := hC1 k f hf
        subst e1; subst e2; subst e3; subst e4
        by_cases ht : f.site < s
        · as_aux_lemma =>
          have st : sel 0 s f = true := by simp [sel, ltB, ht]
          obtain ⟨hat, hnx⟩ := hI.take hf st
          have HAT : Hid (M[j]? = some f) := hat
          have hjm : j < m := by rw [HM.out]; exact (List.getElem?_eq_some_iff.1 hat).1
          have hd : decide ((m : Int) ≤ (j : Int)) = false := by simp; omega
          have hd2 : decide (m ≤ j) = false := by simp; omega
          clear hI hat hf st
          go_wp2
          refine wp_region_quiet_lit (by kernel_rfl) (by kernel_rfl) ?_
          repeat (go_big_quiet_step (fail))
          go_big_quiet_step (exact quiet_at (entryAt_self _ _ _ _ _ _ _ _ _ _ M f _ (by omega) HM (by exact hCM) HAT (by exact hsf)))
          repeat (go_big_quiet_step (fail))
          refine wpQuiet_nil ?_
          rintro _ ⟨nq, rfl⟩
          go_wp2
          go_roundw
          case rel => exact ⟨j + 1, k + 1, _, by omega, by go_num, by go_num, by omega, hnx, by first | rfl | simp only [World.drewN_drewN]⟩
          case measure => simp [intOf]; omega
        · as_aux_lemma =>
          have st : sel 0 s f = false := by simp [sel, ltB]; omega
          have ht' : s ≤ f.site := by omega
          clear ht
          have hnx := hI.pass hf st
          clear hI hf st
          go_wp2
          go_roundw
          case rel => exact ⟨j, k + 1, _, by omega, by go_num, rfl, by omega, hnx, by first | rfl | simp only [World.drewN_drewN]⟩
          case measure => simp [intOf]; omega
      · have hR := hI.done (by have := HL.out; omega)
        clear hI hk
        have HT : Hid (M.drop j = tail 1 ⟨s, c, A7, n7, K7, r⟩ L) := hR
        clear hR
        go_wp2
        go_roundw
        case rel => exact ⟨j, 1, _, by omega, rfl, rfl, hjm, HT, by first | rfl | simp only [World.drewN_drewN]⟩
        case measure => simp [intOf]
  · as_aux_lemma =>
    have hI0 : Inv 1 ⟨s, c, A7, n7, K7, r⟩ L M j 0 := Inv.start (by omega) hT.out
    clear hT
    go_wp2_with fail
    go_loopw [27, 29] (fun jv kv wx => ∃ (j k q : Nat), k ≤ n4 ∧ kv = .int .i64 k ∧ jv = .int .i64 j ∧ j ≤ m ∧ Inv 1 ⟨s, c, A7, n7, K7, r⟩ L M j k ∧ wx = W1.drewN q) (fun _ kv _ => n4 - (intOf kv).toNat)
    case atStart => exact ⟨j, 0, _, Nat.zero_le _, rfl, rfl, hjm, hI0, rfl⟩
    case round =>
      clear hI0 hjm
      obtain ⟨j, k, q, hk, rfl, rfl, hjm, hI, rfl⟩ := hrel
      by_cases hkn : k < n4
      · obtain ⟨f, hf⟩ : ∃ f, L[k]? = some f := ⟨L[k]'(by have := HL.out; omega), by simp⟩
        have hsf := hF1 f (List.mem_of_getElem? hf)
        have hkn' : (k : Int) < (n4 : Int) := by omega
        obtain ⟨⟨b1, o1, e1, c1⟩, ⟨b2, o2, e2, c2⟩, ⟨b3, o3, e3, c3⟩, ⟨b4, o4, e4, c4⟩⟩ := hC1 k f hf
        subst e1; subst e2; subst e3; subst e4
        by_cases ht : f.site = s
        · obtain ⟨fs, fc, fa, fn, fd, fr⟩ := f
          obtain rfl : s = fs := ht.symm
          have ht' : (s == s) = true := by simp
          cases fa with
          | none => as_aux_lemma =>
            have st : sel 1 s (⟨s, fc, none, fn, fd, fr⟩ : Ent) = false := by simp [sel, midB, Ent.bare]
            have hnx := hI.pass hf st
            clear hI hf st
            go_wp2
            go_roundw
            case rel => exact ⟨j, k + 1, _, by omega, by go_num, rfl, by omega, hnx, by first | rfl | simp only [World.drewN_drewN]⟩
            case measure => simp [intOf]; omega
          | some fq => as_aux_lemma =>
            have st : sel 1 s (⟨s, fc, some fq, fn, fd, fr⟩ : Ent) = true := by simp [sel, midB, Ent.bare]
            obtain ⟨hat, hnx⟩ := hI.take hf st
            have HAT : Hid (M[j]? = some (⟨s, fc, some fq, fn, fd, fr⟩ : Ent)) := hat
            have hjm : j < m := by rw [HM.out]; exact (List.getElem?_eq_some_iff.1 hat).1
            have hd : decide ((m : Int) ≤ (j : Int)) = false := by simp; omega
            have hd2 : decide (m ≤ j) = false := by simp; omega
            clear hI hat hf st
            go_wp2
            refine wp_region_quiet_lit (by kernel_rfl) (by kernel_rfl) ?_
            repeat (go_big_quiet_step (fail))
            go_big_quiet_step (exact quiet_at (entryAt_vals _ _ _ _ _ _ _ _ _ _ M s fc (some fq) fn fd fr _ (by omega) HM (by exact hCM) HAT (by exact hsf)))
            repeat (go_big_quiet_step (fail))
            refine wpQuiet_nil ?_
            rintro _ ⟨nq, rfl⟩
            go_wp2
            go_roundw
            case measure => simp [intOf]; omega
            repeat apply Exists.intro
            refine ⟨⟨j + 1, k + 1, q + nq, ?_, ?_, ?_, ?_, ?_, ?_⟩, ?_⟩
            rotate_left 6
            · rfl
            · omega
            · go_num
            · go_num
            · omega
            · exact hnx
            · first | rfl | simp only [World.drewN_drewN]
        · as_aux_lemma =>
          have ht' : (f.site == s) = false := by simp [ht]
          have st : sel 1 s f = false := by simp [sel, midB, ht]
          clear ht
          have hnx := hI.pass hf st
          clear hI hf st
          go_wp2
          go_roundw
          case rel => exact ⟨j, k + 1, _, by omega, by go_num, rfl, by omega, hnx, by first | rfl | simp only [World.drewN_drewN]⟩
          case measure => simp [intOf]; omega
      · have hR := hI.done (by have := HL.out; omega)
        clear hI hk
        obtain ⟨hat, hnx⟩ := at_of_drop hR
        have HAT : Hid (M[j]? = some (⟨s, c, A7, n7, K7, r⟩ : Ent)) := hat
        have HT : Hid (M.drop (j + 1) = tail 2 ⟨s, c, A7, n7, K7, r⟩ L) := hnx
        have hjm2 : j < m := by rw [HM.out]; exact (List.getElem?_eq_some_iff.1 hat).1
        have hd : decide ((m : Int) ≤ (j : Int)) = false := by simp; omega
        have hd2 : decide (m ≤ j) = false := by simp; omega
        clear hR hat hnx
        go_wp2_with fail
        refine (entryAt_self _ _ _ _ _ _ _ _ _ _ M (⟨s, c, A7, n7, K7, r⟩ : Ent) _ (by omega) HM (by exact hCM) HAT (by exact hSe1)).mono ?_
        rintro x w' ⟨rfl, q5, rfl⟩
        go_wp2
        go_roundw
        case rel => exact ⟨j + 1, 2, _, by omega, rfl, by go_num, by omega, HT, by first | rfl | simp only [World.drewN_drewN]⟩
        case measure => simp [intOf]
  · as_aux_lemma =>
    have hI0 : Inv 2 ⟨s, c, A7, n7, K7, r⟩ L M j 0 := Inv.start (by omega) hT.out
    clear hT
    go_wp2_with fail
    go_loopw [27, 29] (fun jv kv wx => ∃ (j k q : Nat), k ≤ n4 ∧ kv = .int .i64 k ∧ jv = .int .i64 j ∧ j ≤ m ∧ Inv 2 ⟨s, c, A7, n7, K7, r⟩ L M j k ∧ wx = W1.drewN q) (fun _ kv _ => n4 - (intOf kv).toNat)
    case atStart => exact ⟨j, 0, _, Nat.zero_le _, rfl, rfl, hjm, hI0, rfl⟩
    case round =>
      clear hI0 hjm
      obtain ⟨j, k, q, hk, rfl, rfl, hjm, hI, rfl⟩ := hrel
      by_cases hkn : k < n4
      · obtain ⟨f, hf⟩ : ∃ f, L[k]? = some f := ⟨L[k]'(by have := HL.out; omega), by simp⟩
        have hsf := hF1 f (List.mem_of_getElem? hf)
        have hkn' : (k : Int) < (n4 : Int) := by omega
        obtain ⟨⟨b1, o1, e1, c1⟩, ⟨b2, o2, e2, c2⟩, ⟨b3, o3, e3, c3⟩, ⟨b4, o4, e4, c4⟩⟩ := hC1 k f hf
        subst e1; subst e2; subst e3; subst e4
        by_cases ht : s < f.site
        · as_aux_lemma =>
          have st : sel 2 s f = true := by simp [sel, gtB, ht]
          obtain ⟨hat, hnx⟩ := hI.take hf st
          have HAT : Hid (M[j]? = some f) := hat
          have hjm : j < m := by rw [HM.out]; exact (List.getElem?_eq_some_iff.1 hat).1
          have hd : decide ((m : Int) ≤ (j : Int)) = false := by simp; omega
          have hd2 : decide (m ≤ j) = false := by simp; omega
          clear hI hat hf st
          go_wp2
          refine wp_region_quiet_lit (by kernel_rfl) (by kernel_rfl) ?_
          repeat (go_big_quiet_step (fail))
          go_big_quiet_step (exact quiet_at (entryAt_self _ _ _ _ _ _ _ _ _ _ M f _ (by omega) HM (by exact hCM) HAT (by exact hsf)))
          repeat (go_big_quiet_step (fail))
          refine wpQuiet_nil ?_
          rintro _ ⟨nq, rfl⟩
          go_wp2
          go_roundw
          case rel => exact ⟨j + 1, k + 1, _, by omega, by go_num, by go_num, by omega, hnx, by first | rfl | simp only [World.drewN_drewN]⟩
          case measure => simp [intOf]; omega
        · as_aux_lemma =>
          have st : sel 2 s f = false := by simp [sel, gtB]; omega
          have ht' : f.site ≤ s := by omega
          clear ht
          have hnx := hI.pass hf st
          clear hI hf st
          go_wp2
          go_roundw
          case rel => exact ⟨j, k + 1, _, by omega, by go_num, rfl, by omega, hnx, by first | rfl | simp only [World.drewN_drewN]⟩
          case measure => simp [intOf]; omega
      · have hR := hI.done (by have := HL.out; omega)
        clear hI hk
        have HT : Hid (M.drop j = tail 3 ⟨s, c, A7, n7, K7, r⟩ L) := hR
        clear hR
        go_wp2
        go_roundw
        case rel => exact ⟨j, 3, _, by omega, rfl, rfl, hjm, HT, by first | rfl | simp only [World.drewN_drewN]⟩
        case measure => simp [intOf]
  · as_aux_lemma =>
    have hj : j = m := by
      have h := congrArg List.length hT.out
      rw [List.length_drop, ← HM.out] at h
      simp only [tail, List.length_nil] at h
      omega
    subst hj
    clear hT
    go_wp2
    go_ret
    exact ⟨by simp, below_draws hbW _⟩

end Go.Proofs.Qxb6617269a
