/-
  The law: raise twice reaches the greater (function 8).
-/
import Derived.Test.Qxb6617269aPre8
namespace Go.Proofs.Qxb6617269a
open Go.RowKit
set_option linter.unusedVariables false

set_option maxRecDepth 100000 in
set_option maxHeartbeats 4000000 in
theorem fn8_walk (a0 a3 a4 : Option Addr) (n0 n3 n4 k0 k3 k4 : Nat) (ops col i n m : Int) (Ts : List (List (Int × Int))) (bs : List Bool) (gs : List Int) (w : World)
    (h0 : n0 ≤ maxLen) (h3 : n3 ≤ maxLen) (h4 : n4 ≤ maxLen) (H0 : Hid (n0 = Ts.length)) (H3 : Hid (n3 = bs.length)) (H4 : Hid (n4 = gs.length)) (r0 : In w a0 Ts) (r3 : BIn w a3 bs) (r4 : Row .i64 w a4 gs) (hM : ∀ T ∈ Ts, T.length ≤ maxLen) (Hcw : Hid ((Lit.int .i64 col).wf = true)) :
    Calls Try.prog 8 #[.slice a0 n0 k0, .int .i64 ops, .int .i64 col, .slice a3 n3 k3, .slice a4 n4 k4, .int .i64 i, .int .i64 n, .int .i64 m] w fun e w' => e = .returned (.bool true) ∧ Below w.heap.size w w' := by
  obtain ⟨i3, hi3, hy0, hy1, hy2⟩ := info_parts Try.info3
  obtain ⟨i4, hi4, hx0, hx1, hx2⟩ := info_parts Try.info4
  have hne := fun wx a n c => run_neq_slice_nil_any (P := Try.prog) wx 22 3 a n c 0 0 Try.underlying22
  have hne' := fun wx a n c => run_neq_slice_nil_any (P := Try.prog) wx 40 4 a n c 0 0 Try.underlying40
  go_enter Try.func8, Try.ntmps8
  go_wp2_with fail
  refine (bytes24 _ _ _ _ _ _ _ _ _ _ _ _ _ _ Ts _ h0 h3 h4 H0 r0 hM).mono ?_
  rintro e w' ⟨b, rfl, rfl, hsm⟩
  cases b with
  | false =>
    go_wp2
    go_ret
    exact ⟨rfl, Below.refl _ _⟩
  | true =>
  have hsm' : SmallT Ts 1048576 n0 := hsm.out rfl
  clear hsm hM h0 h3 h4
  by_cases m0 : n0 ≤ 8192
  case neg =>
    go_wp2
    go_ret
    exact ⟨rfl, Below.refl _ _⟩
  by_cases m3 : n3 ≤ 16384
  case neg =>
    go_wp2
    go_ret
    exact ⟨rfl, Below.refl _ _⟩
  by_cases m4 : n4 ≤ 16384
  case neg =>
    go_wp2
    go_ret
    exact ⟨rfl, Below.refl _ _⟩
  go_upto_if 59 with fail
  go_cut [3] (fun v wx => ∃ a k, v = .slice a n3 k ∧ BIn wx a bs ∧ Below w.heap.size w wx)
  case first => as_aux_lemma =>
    cases a3 with
    | none =>
      go_wp2
      go_meet
      case rel => exact ⟨_, _, rfl, r3, Below.refl _ _⟩
    | some a =>
      go_upto_region 7 with (first | (at_make; refine wpList_make_blk rfl _ _ 40 rfl 4 i4 (.bool false) Try.underlying40 hi4 hx0 n3 n3 rfl rfl (Nat.le_refl _) (by rw [hx2]; omega) (by unfold maxLen; omega) ?_; intro w1 hB1 hs1 hb1))
      rw [hx1] at hB1
      have q1 := r3.keep hb1
      go_wp2_with (refine wpList_copy_bl rfl (.tmp 63) (.tmp 64) 40 40 rfl 4 Try.underlying40 Try.size4 _ n3 _ _ _ rfl rfl _ 4 hB1 (by rw [size_made]; omega) bs H3.out.symm q1 ?_; intro w2 hB2 hs2 hb2)
      go_meet
      case rel => exact ⟨_, _, rfl, BIn.of_blk hB2, hb1.trans hb2⟩
  case rest => as_aux_lemma =>
  obtain ⟨A3, K3, rfl, p3, hb1⟩ := hcut
  have p4 := r4.keep hb1
  clear r3
  go_upto_if 68 with fail
  go_cut [4] (fun v wx => ∃ a k, v = .slice a n4 k ∧ BIn wx A3 bs ∧ Row .i64 wx a gs ∧ Below w.heap.size w wx)
  case first => as_aux_lemma =>
    cases a4 with
    | none =>
      go_wp2
      go_meet
      case rel => exact ⟨_, _, rfl, p3, p4, hb1⟩
    | some a =>
      go_upto_region 11 with (first | (at_make; refine wpList_make_blk rfl _ _ 22 rfl 3 i3 (.int .i64 0) Try.underlying22 hi3 hy0 n4 n4 rfl rfl (Nat.le_refl _) (by rw [hy2]; omega) (by unfold maxLen; omega) ?_; intro w1 hB1 hs1 hb1'))
      rw [hy1] at hB1
      have q1 := p4.keep hb1'
      go_wp2_with (refine wpList_copy_blk rfl (.tmp 72) (.tmp 73) 22 22 rfl 3 Try.underlying22 Try.size3 _ n4 _ _ _ rfl rfl _ 3 hB1 (by rw [size_made]; omega) .i64 gs H4.out.symm q1 ?_; intro w2 hB2 hs2 hb2)
      go_meet
      case rel => exact ⟨_, _, rfl, p3.keep (hb1'.trans hb2), hB2.row p4.wf, hb1.trans ((hb1'.trans hb2).mono hb1.size)⟩
  case rest => as_aux_lemma =>
  clear p3 p4 hb1 r4
  obtain ⟨A4, K4, rfl, p3, p4, hb1⟩ := hcut
  have p0 := r0.keep hb1
  clear r0 hne hne'
  obtain ⟨W0, rfl⟩ : ∃ W0, W0 = wc := ⟨_, rfl⟩
  go_wp2_with fail
  go_loop [19, 20] (fun z j => ∃ (k t : Nat), k ≤ n0 ∧ j = .int .i64 k ∧ z = .int .i64 t ∧ t ≤ 32768 ∧ SmallT Ts 32768 k) (fun _ j => n0 - (intOf j).toNat)
  case atStart => exact ⟨0, 0, Nat.zero_le _, rfl, rfl, Nat.zero_le _, SmallT.zero _ _⟩
  case round =>
  obtain ⟨k, t, hk, rfl, rfl, ht, hS⟩ := hrel
  by_cases hlt : k < n0
  case pos => as_aux_lemma =>
    obtain ⟨T, hT⟩ : ∃ T, Ts[k]? = some T := ⟨Ts[k]'(by have := H0.out; omega), by simp⟩
    have hsd := hsm' k T hlt hT
    obtain ⟨b, off, x, l, c, e, cc, hl, _, _⟩ := p0 k T hT
    subst e
    rw [← hl.out] at hsd
    have hlt' : (k : Int) < (n0 : Int) := by omega
    by_cases g2 : t + l ≤ 32768
    · have hS2 := hS.step hT (by rw [← hl.out]; omega)
      clear hT p0 p3 p4 hl hS hsm'
      go_wp2
      go_round
      case rel => exact ⟨k + 1, t + l, by omega, by go_num, by go_num, g2, hS2⟩
      case measure => simp [intOf]; omega
    · clear hT p0 p3 p4 hl hS hsm'
      go_wp2
      go_ret
      exact ⟨rfl, hb1⟩
  case neg => as_aux_lemma =>
  have kn : k = n0 := by omega
  subst kn
  clear hk hsm' hlt ht
  by_cases e34 : n4 = n3
  case neg =>
    have e34' : ¬ (n4 : Int) = (n3 : Int) := by omega
    clear p0 p3 p4 hS
    go_wp2
    go_ret
    exact ⟨rfl, hb1⟩
  subst e34
  by_cases hc0 : col < 0
  case pos =>
    clear p0 p3 p4 hS
    go_wp2
    go_ret
    exact ⟨rfl, hb1⟩
  have hc0' : 0 ≤ col := by omega
  by_cases hi0 : i < 0
  case pos =>
    clear p0 p3 p4 hS hc0
    go_wp2
    go_ret
    exact ⟨rfl, hb1⟩
  have hi0' : 0 ≤ i := by omega
  by_cases hi1 : (k : Int) ≤ i
  case pos =>
    clear p0 p3 p4 hS hc0 hi0
    go_wp2
    go_ret
    exact ⟨rfl, hb1⟩
  obtain ⟨I, rfl⟩ : ∃ I : Nat, i = (I : Int) := ⟨i.toNat, by omega⟩
  have hI' : (I : Int) < (k : Int) := by omega
  have hIk : I < k := by omega
  clear hi0 hi1 hc0
  go_upto_if 111 with fail
  go_cut [21] (fun v wx => ∃ ow : Int, v = .int .i64 ow ∧ wx = W0 ∧ Hid ((col = 0 ∧ ow = -1) ∨ (0 < col ∧ I / col.toNat < n4 ∧ ow = ((I / col.toNat : Nat) : Int))))
  case first => as_aux_lemma =>
    clear p0 p3 p4 hS
    by_cases hz : col = 0
    · subst hz
      go_wp2
      go_meet
      case rel => exact ⟨-1, rfl, rfl, .inl ⟨rfl, rfl⟩⟩
    · obtain ⟨c, rfl⟩ : ∃ c : Nat, col = (c : Int) := ⟨col.toNat, by omega⟩
      have hcp : (0 : Int) < (c : Int) := by omega
      have hcm := (wf_i64 Hcw.out).2
      go_wp2_with fail
      refine (blockOf_any I c n4 W0 (by omega) (by omega) hcm (by omega)).mono ?_
      rintro e w' ⟨rfl, rfl⟩
      by_cases hq : I / c < n4
      · have e : blockOf I c n4 = ((I / c : Nat) : Int) := by unfold blockOf; rw [if_pos hq]
        rw [e]
        obtain ⟨q, hqq⟩ : ∃ q, q = I / c := ⟨_, rfl⟩
        rw [← hqq] at hq ⊢
        have HQ : Hid (q = I / c) := hqq
        clear hqq e hcm
        go_wp2
        go_meet
        case rel => exact ⟨_, rfl, rfl, .inr ⟨hcp, by rw [Int.toNat_natCast, ← HQ.out]; exact hq, by rw [Int.toNat_natCast, ← HQ.out]⟩⟩
      · have e : blockOf I c n4 = -1 := by unfold blockOf; rw [if_neg hq]
        rw [e]
        clear e hcm hq
        go_wp2
        go_ret
        exact ⟨rfl, hb1⟩
  case rest => as_aux_lemma =>
  obtain ⟨ow, rfl, hwc, HO⟩ := hcut
  subst hwc
  obtain ⟨rs, hr1, hr2⟩ : ∃ rs : List (Bool × Int), rs.map Prod.fst = bs ∧ rs.map Prod.snd = gs := ⟨bs.zip gs, List.map_fst_zip (by rw [← H3.out, ← H4.out]; exact Nat.le_refl _), List.map_snd_zip (by rw [← H3.out, ← H4.out]; exact Nat.le_refl _)⟩
  subst hr1
  subst hr2
  have HR : Hid (n4 = rs.length) := by show _ = _; rw [H4.out, List.length_map]
  obtain ⟨T, hT⟩ : ∃ T, Ts[I]? = some T := ⟨Ts[I]'(by have := H0.out; omega), by simp⟩
  have hCo : ColOk rs col I := by
    rcases HO.out with ⟨h, _⟩ | ⟨h1, h2, _⟩
    · exact .inl h
    · exact .inr ⟨h1, by rw [← HR.out]; exact h2⟩
  have HC : Hid (col = 0 ∨ (0 < col ∧ I / col.toNat < n4)) := by
    rcases HO.out with ⟨h, _⟩ | ⟨h1, h2, _⟩
    · exact .inl h
    · exact .inr ⟨h1, h2⟩
  have hl : ∀ T ∈ Ts, T.length ≤ 32768 := fun T hT => by
    obtain ⟨j, hj⟩ := List.mem_iff_getElem?.1 hT
    exact hS j T (by rw [H0.out]; exact (List.getElem?_eq_some_iff.1 hj).1) hj
  have hlT := hl T (List.mem_of_getElem? hT)
  have hgw := p4.wf
  have g4 := GIn.of_row p4
  have HCo : Hid (ColOk rs col I) := hCo
  clear hS p4 hCo hc0' hi0' Hcw H3 H4
  go_wp2_with fail
  refine (zraise_any _ _ _ _ _ _ _ _ ops col I n Ts rs T _ (by omega) (by omega) H0 HR p0 p3 g4 (fun T h => by have := hl T h; omega) hIk hT HC).mono ?_
  rintro e W1 ⟨O1, G1, rfl, hI1, hG1, hbA⟩
  obtain ⟨T1, e1⟩ : ∃ T1, (upRec T rs col I ops n).1 = T1 := ⟨_, rfl⟩
  obtain ⟨rs1, e2⟩ : ∃ rs1, (upRec T rs col I ops n).2 = rs1 := ⟨_, rfl⟩
  have HU1 : Hid ((upRec T rs col I ops n).1 = T1 ∧ (upRec T rs col I ops n).2 = rs1) := ⟨e1, e2⟩
  have hf1 : rs1.map Prod.fst = rs.map Prod.fst := by rw [← e2]; exact upRec_fst HCo.out
  have Ht1 : Hid (topOf T1 = max (topOf T) n) := by rw [← e1]; exact upRec_top HCo.out
  have hln1 : T1.length ≤ T.length + 1 := by rw [← e1]; exact upRec_len T rs col I ops n
  rw [e1] at hI1
  rw [e2] at hG1
  clear e1 e2
  have HR1 : Hid (n4 = rs1.length) := by
    have := congrArg List.length hf1
    simp only [List.length_map] at this
    show _ = _
    rw [HR.out, this]
  have q3 := p3.keep hbA
  have hT1 : (Ts.set I T1)[I]? = some T1 := List.getElem?_set_self (by rw [← H0.out]; exact hIk)
  have HL1 : Hid (k = (Ts.set I T1).length) := by show _ = _; rw [List.length_set]; exact H0.out
  have hbW1 : Below w.heap.size w W1 := hb1.trans (hbA.mono hb1.size)
  have hla : ∀ T' ∈ Ts.set I T1, T'.length ≤ 65530 := by
    intro T' h
    rcases List.mem_or_eq_of_mem_set h with h | h
    · have := hl T' h; omega
    · rw [h]; omega
  have q0 := p0.keep hbA
  have q4 := g4.keep hbA
  clear p0 p3 g4 hbA hb1
  go_wp2_with fail
  refine (zraise_any _ _ _ _ _ _ _ _ ops col I m (Ts.set I T1) rs1 T1 _ (by omega) (by omega) HL1 HR1 hI1 (by rw [hf1]; exact q3) hG1 hla hIk hT1 HC).mono ?_
  rintro e W2 ⟨O2, G2, rfl, hI2, hG2, hbB⟩
  obtain ⟨T2, e1⟩ : ∃ T2, (upRec T1 rs1 col I ops m).1 = T2 := ⟨_, rfl⟩
  obtain ⟨rs2, e2⟩ : ∃ rs2, (upRec T1 rs1 col I ops m).2 = rs2 := ⟨_, rfl⟩
  have HCo1 : Hid (ColOk rs1 col I) := by
    show ColOk _ _ _
    unfold ColOk
    rw [← HR1.out]
    exact HC.out
  have HU2 : Hid ((upRec T1 rs1 col I ops m).1 = T2 ∧ (upRec T1 rs1 col I ops m).2 = rs2) := ⟨e1, e2⟩
  have Ht2 : Hid (topOf T2 = max (topOf T1) m) := by rw [← e1]; exact upRec_top HCo1.out
  have hln2 : T2.length ≤ T1.length + 1 := by rw [← e1]; exact upRec_len T1 rs1 col I ops m
  have HR2 : Hid (n4 = rs2.length) := by show _ = _; rw [← e2, upRec_rlen]; exact HR1.out
  rw [e1] at hI2
  rw [e2] at hG2
  clear e1 e2
  have hss : (Ts.set I T1).set I T2 = Ts.set I T2 := List.set_set ..
  rw [hss] at hI2
  have hT2 : (Ts.set I T2)[I]? = some T2 := List.getElem?_set_self (by rw [← H0.out]; exact hIk)
  have s0 := q0.keep hbB
  have s1 := hI1.keep hbB
  have s3 := q3.keep hbB
  have s4 := q4.keep hbB
  have sG1 := hG1.keep hbB
  have hbW2 : Below w.heap.size w W2 := hbW1.trans (hbB.mono hbW1.size)
  clear q0 q3 q4 hI1 hG1 hbB hbW1 hss
  obtain ⟨b0, o0, x0, l0, c0, eb, cc0, hl0, _, hS0⟩ := s0 I T hT
  subst eb
  obtain ⟨b1, o1, x1, l1, c1, eb, cc1, hl1, _, hS1⟩ := s1 I T1 hT1
  cases eb
  obtain ⟨b2, o2, x2, l2, c2, eb, cc2, hl2, _, hS2⟩ := hI2 I T2 hT2
  cases eb
  rw [Nat.zero_add] at cc1 cc2
  have hl0' : l0 ≤ 65536 := by rw [hl0.out]; omega
  have hl1' : l1 ≤ 65536 := by rw [hl1.out]; omega
  have hl2' : l2 ≤ 65536 := by rw [hl2.out]; omega
  obtain ⟨t0, Ht0⟩ : ∃ t, Hid (topOf T = t) := ⟨_, rfl⟩
  obtain ⟨md, Hmd⟩ : ∃ t, Hid (max t0 n = t) := ⟨_, rfl⟩
  obtain ⟨hh, Hhh⟩ : ∃ t, Hid (max md m = t) := ⟨_, rfl⟩
  have HT1 : Hid (topOf T1 = md) := by show _ = _; rw [Ht1.out, Ht0.out, Hmd.out]
  have HT2 : Hid (topOf T2 = hh) := by show _ = _; rw [Ht2.out, HT1.out, Hhh.out]
  have HH0 : Hid (∀ T ∈ Ts, T.length ≤ 32768) := hl
  have HLN : Hid (T1.length ≤ T.length + 1 ∧ T2.length ≤ T1.length + 1 ∧ T.length ≤ 32768) := ⟨hln1, hln2, hlT⟩
  have HF1 : Hid (rs1.map Prod.fst = rs.map Prod.fst) := hf1
  have HTI : Hid (Ts[I]? = some T) := hT
  clear hla hl hln1 hln2 hlT hf1 hT hT1 hT2 Ht1 Ht2
  go_wp2_with fail
  refine (topOf_any _ _ _ T _ (by unfold maxLen; omega) hl0 hS0).mono ?_
  rintro e w' ⟨rfl, hw⟩
  subst hw
  rw [Ht0.out]
  go_wp2_with fail
  refine (max_any _ _ _).mono ?_
  rintro e w' ⟨rfl, hw⟩
  subst hw
  rw [Hmd.out]
  go_wp2_with fail
  refine (max_any _ _ _).mono ?_
  rintro e w' ⟨rfl, hw⟩
  subst hw
  rw [Hhh.out]
  go_wp2_with fail
  refine (risesTop_any _ _ _ T1 _ hl1' hl1 hS1).mono ?_
  rintro e W3 ⟨rfl, hbC⟩
  rw [HT1.out]
  have cc2' := hbC.cell (cell_lt cc2)
  rw [cc2] at cc2'
  have hS2' := hS2.keep hbC
  go_wp2_with fail
  refine (risesTop_any _ _ _ T2 _ hl2' hl2 hS2').mono ?_
  rintro e W4 ⟨rfl, hbD⟩
  rw [HT2.out]
  have hbE := hbC.trans (hbD.mono hbC.size)
  have u1 := s1.keep hbE
  have u2 := hI2.keep hbE
  have u3 := s3.keep hbE
  have u4 := s4.keep hbE
  have uG1 := sG1.keep hbE
  have uG2 := hG2.keep hbE
  have hbW4 : Below w.heap.size w W4 := hbW2.trans (hbE.mono hbW2.size)
  have cc3 : W4.cell? ⟨O2, I, none⟩ = some (.slice x2 l2 c2) := by rw [hbE.cell (cell_lt cc2)]; exact cc2
  have hS3 := hS2.keep hbE
  clear s0 s1 s3 s4 sG1 hI2 hG2 hbC hbD hbE hS0 hS1 hS2 hS2' cc0 cc1 cc2 cc2' hbW2
  go_upto_if 194 with fail
  go_cut [] (fun wx => ∃ q, wx = W4.drewN q)
  case first => as_aux_lemma =>
    by_cases hm : m ≤ md
    case neg =>
      clear u1 u2 u3 u4 uG1 uG2 cc3 hS3
      go_wp2
      go_meet
      case rel => exact ⟨0, rfl⟩
    have eU : upRec T1 rs1 col I ops m = (T1, rs1) := upRec_no (by rw [HT1.out]; exact hm)
    have eT : T2 = T1 := by rw [← HU2.out.1, eU]
    have eR : rs2 = rs1 := by rw [← HU2.out.2, eU]
    rw [eT] at u2
    rw [eR] at uG2
    clear eU eT eR u3 u4 cc3 hS3
    go_wp2_with fail
    go_loopw [29] (fun j wr => ∃ y q : Nat, y ≤ k ∧ j = .int .i64 y ∧ wr = W4.drewN q) (fun j _ => k - (intOf j).toNat)
    case atStart => exact ⟨0, 0, Nat.zero_le _, rfl, rfl⟩
    case round =>
    obtain ⟨y, q, hy, rfl, rfl⟩ := hrel
    by_cases hyk : y < k
    case pos => as_aux_lemma =>
      obtain ⟨Ty, hTy⟩ : ∃ Ty, (Ts.set I T1)[y]? = some Ty := ⟨(Ts.set I T1)[y]'(by have := HL1.out; omega), by simp⟩
      have hly : Ty.length ≤ 65536 := by
        have h1 := HLN.out
        rcases List.mem_or_eq_of_mem_set (List.mem_of_getElem? hTy) with h | h
        · have := HH0.out Ty h; omega
        · rw [h]; omega
      obtain ⟨bA, oA, xA, lA, cA, eb, ca, hlA, _, hSA⟩ := u1 y Ty hTy
      cases eb
      obtain ⟨bB, oB, xB, lB, cB, eb, cb, hlB, _, hSB⟩ := u2 y Ty hTy
      cases eb
      rw [Nat.zero_add] at ca cb
      have hle : lB = lA := by rw [hlA.out, hlB.out]
      subst hle
      have hl6 : lB ≤ 65536 := by rw [hlB.out]; exact hly
      have hyk' : (y : Int) < (k : Int) := by omega
      clear hTy hly u1 u2 uG1 uG2 hlA
      go_wp2
      refine wp_region_quiet_lit (by kernel_rfl) (by kernel_rfl) ?_
      repeat (go_big_quiet_step (fail))
      go_big_quiet_step (exact quiet_at (sameSteps_is _ _ _ _ _ Ty _ hl6 hlB (by exact hSB) (by exact hSA)))
      repeat (go_big_quiet_step (fail))
      refine wpQuiet_nil ?_
      rintro _ ⟨nq, rfl⟩
      go_wp2
      go_roundw
      case rel => exact ⟨y + 1, _, by omega, by go_num, by first | rfl | simp only [World.drewN_drewN]⟩
      case measure => simp [intOf]; omega
    case neg => as_aux_lemma =>
      have yk : y = k := by omega
      subst yk
      clear u1 u2
      go_wp2_with fail
      go_loopw [30] (fun j wr => ∃ v p : Nat, v ≤ n4 ∧ j = .int .i64 v ∧ wr = W4.drewN p) (fun j _ => n4 - (intOf j).toNat)
      case atStart => exact ⟨0, q, Nat.zero_le _, rfl, rfl⟩
      case round =>
      obtain ⟨v, p, hv, rfl, rfl⟩ := hrel
      by_cases hvn : v < n4
      case pos => as_aux_lemma =>
        obtain ⟨s, hs⟩ : ∃ s, rs1[v]? = some s := ⟨rs1[v]'(by have := HR1.out; omega), by simp⟩
        obtain ⟨_, _, eb, ca⟩ := uG1 v s.2 (by rw [List.getElem?_map, hs]; rfl)
        cases eb
        obtain ⟨_, _, eb, cb⟩ := uG2 v s.2 (by rw [List.getElem?_map, hs]; rfl)
        cases eb
        rw [Nat.zero_add] at ca cb
        have hvn' : (v : Int) < (n4 : Int) := by omega
        clear uG1 uG2 hs
        go_wp2
        go_quiet (fail)
        go_wp2
        go_roundw
        case rel => exact ⟨v + 1, _, by omega, by go_num, by first | rfl | simp only [World.drewN_drewN]⟩
        case measure => simp [intOf]; omega
      case neg => as_aux_lemma =>
        clear uG1 uG2
        have hvn' : ¬ (v : Int) < (n4 : Int) := by omega
        go_wp2
        go_meet
        case rel => exact ⟨p, rfl⟩
  case rest => as_aux_lemma =>
  obtain ⟨q, hwq⟩ := hcut
  have v3 : BIn wc A3 (rs.map Prod.fst) := by rw [hwq]; exact u3
  have v4 : GIn wc A4 (rs.map Prod.snd) := by rw [hwq]; exact u4
  have vG2 : GIn wc (some ⟨G2, 0, none⟩) (rs2.map Prod.snd) := by rw [hwq]; exact uG2
  have cc5 : wc.cell? ⟨O2, I, none⟩ = some (.slice x2 l2 c2) := by rw [hwq]; exact cc3
  have hS5 : SRow wc x2 T2 := by rw [hwq]; exact hS3
  have hbW5 : Below w.heap.size w wc := by rw [hwq]; exact below_draws hbW4 _
  obtain ⟨W5, rfl⟩ : ∃ W5, W5 = wc := ⟨_, rfl⟩
  clear hwq u1 u2 u3 u4 uG1 uG2 cc3 hS3 hbW4
  obtain ⟨ad1, Had1⟩ : ∃ x : Int, Hid ((if t0 < n then (1 : Int) else 0) = x) := ⟨_, rfl⟩
  go_upto_if 228 with fail
  go_cut [31] (fun v wx => v = .int .i64 ad1 ∧ wx = W5)
  case first => as_aux_lemma =>
    clear v3 v4 vG2 cc5 hS5
    by_cases h : t0 < n
    · have e : ad1 = 1 := by rw [← Had1.out, if_pos h]
      subst e
      go_wp2
      go_meet
      case rel => exact ⟨rfl, rfl⟩
    · have e : ad1 = 0 := by rw [← Had1.out, if_neg h]
      subst e
      go_wp2
      go_meet
      case rel => exact ⟨rfl, rfl⟩
  case rest => as_aux_lemma =>
  obtain ⟨rfl, hw0⟩ := hcut
  have hw := hw0.symm
  clear hw0
  subst hw
  obtain ⟨AD, HAD⟩ : ∃ x : Int, Hid (added t0 n m = x) := ⟨_, rfl⟩
  have hA1 : ad1 = 0 ∨ ad1 = 1 := by
    have := Had1.out
    split at this <;> omega
  have HA : Hid (AD = ad1 + (if md < m then (1 : Int) else 0)) := by
    show _ = _
    rw [← HAD.out, ← Had1.out, ← Hmd.out]
    rfl
  have HA1 : Hid (ad1 = 0 ∨ ad1 = 1) := hA1
  clear hA1
  go_upto_if 233 with fail
  go_cut [31] (fun v wx => v = .int .i64 AD ∧ wx = W5)
  case first => as_aux_lemma =>
    clear v3 v4 vG2 cc5 hS5
    by_cases h : md < m
    · have e : AD = ad1 + 1 := by rw [HA.out, if_pos h]
      rcases HA1.out with h1 | h1
      · subst h1
        subst e
        go_wp2
        go_meet
        case rel => exact ⟨rfl, rfl⟩
      · subst h1
        subst e
        go_wp2
        go_meet
        case rel => exact ⟨rfl, rfl⟩
    · have e : AD = ad1 := by rw [HA.out, if_neg h]; omega
      subst e
      go_wp2
      go_meet
      case rel => exact ⟨rfl, rfl⟩
  case rest => as_aux_lemma =>
  obtain ⟨rfl, hw0⟩ := hcut
  have hw := hw0.symm
  clear hw0
  subst hw
  have HAT : Hid (added (topOf T) n m = AD) := by show _ = _; rw [Ht0.out]; exact HAD.out
  go_wp2_with fail
  go_loop [32] (fun j => ∃ v : Nat, v ≤ n4 ∧ j = .int .i64 v) (fun j => n4 - (intOf j).toNat)
  case atStart => exact ⟨0, Nat.zero_le _, rfl⟩
  case round =>
  obtain ⟨v, hv, rfl⟩ := hrel
  by_cases hvn : v < n4
  case pos => as_aux_lemma =>
    obtain ⟨s, hs⟩ : ∃ s, rs[v]? = some s := ⟨rs[v]'(by have := HR.out; omega), by simp⟩
    have hwf := wf_i64 (hgw s.2 (List.mem_map.2 ⟨s, List.mem_of_getElem? hs, rfl⟩))
    have hg2 := twice_gain (T := T) (ops := ops) (n := n) (m := m) HCo.out hs hwf.1 hwf.2
    rw [HU1.out.1, HU1.out.2, HU2.out.2, HAT.out] at hg2
    obtain ⟨bb, ob, rfl, ca⟩ := v3 v s.1 (by rw [List.getElem?_map, hs]; rfl)
    obtain ⟨bg, og, rfl, cb⟩ := v4 v s.2 (by rw [List.getElem?_map, hs]; rfl)
    obtain ⟨_, _, eb, cg⟩ := vG2 v _ (by rw [List.getElem?_map, hg2]; rfl)
    cases eb
    rw [Nat.zero_add] at cg
    have hvn' : (v : Int) < (n4 : Int) := by omega
    obtain ⟨sb, sg⟩ := s
    simp only at ca cb cg
    clear hg2 hs hwf v3 v4 vG2 cc5 hS5 hgw
    cases sb with
    | false =>
      rw [if_neg (by simp)] at cg
      go_wp2
      go_round
      case rel => exact ⟨v + 1, by omega, by go_num⟩
      case measure => simp [intOf]; omega
    | true =>
      by_cases hz : col = 0
      · rw [if_pos ⟨rfl, .inl hz⟩] at cg
        go_wp2
        go_round
        case rel => exact ⟨v + 1, by omega, by go_num⟩
        case measure => simp [intOf]; omega
      · obtain ⟨_, _, how⟩ : 0 < col ∧ I / col.toNat < n4 ∧ ow = ((I / col.toNat : Nat) : Int) := by
          rcases HO.out with ⟨h, _⟩ | h
          · exact absurd h hz
          · exact h
        by_cases hvo : (v : Int) = ow
        · have hvq : v = I / col.toNat := Int.ofNat_inj.1 (hvo.trans how)
          rw [if_pos ⟨rfl, .inr hvq⟩] at cg
          have hb1 : (col == 0) = false := by simpa using hz
          have hd1 : decide (col = 0) = false := by simpa using hz
          clear hvq how HO
          subst hvo
          go_wp2
          go_round
          case rel => exact ⟨v + 1, by omega, by go_num⟩
          case measure => simp [intOf]; omega
        · have hvq : ¬ v = I / col.toNat := fun h => hvo (by rw [how, h])
          rw [if_neg (by rintro ⟨_, h | h⟩; exact hz h; exact hvq h)] at cg
          have hb1 : (col == 0) = false := by simpa using hz
          have hd1 : decide (col = 0) = false := by simpa using hz
          have hb2 : ((v : Int) == ow) = false := by simpa using hvo
          have hd2 : decide ((v : Int) = ow) = false := by simpa using hvo
          clear hvq how HO
          go_wp2
          go_round
          case rel => exact ⟨v + 1, by omega, by go_num⟩
          case measure => simp [intOf]; omega
  case neg => as_aux_lemma =>
    have hvn' : ¬ (v : Int) < (n4 : Int) := by omega
    by_cases hgt : t0 < hh
    · have hlast := twice_last (T := T) (rs := rs) (col := col) (i := I) (ops := ops) (n := n) (m := m) HCo.out (by rw [Ht0.out, Hmd.out, Hhh.out]; exact hgt)
      rw [HU1.out.1, HU1.out.2, HU2.out.1, Ht0.out, Hmd.out, Hhh.out, List.getLast?_eq_getElem?, ← hl2.out] at hlast
      obtain ⟨L, hL⟩ : ∃ L, l2 = L + 1 := ⟨l2 - 1, by have := (List.getElem?_eq_some_iff.1 hlast).1; have := hl2.out; omega⟩
      have HK : Hid (l2 = L + 1) := hL
      have e : l2 - 1 = L := by omega
      rw [e] at hlast
      obtain ⟨b, off, rfl, d0, d1⟩ := hS5 L _ hlast
      have h1 : (l2 : Int) - 1 = (L : Int) := by omega
      have hkn : L < l2 := by omega
      have hkn' : (L : Int) < (l2 : Int) := by omega
      have hn0 : ¬ (l2 : Int) = 0 := by omega
      have hb0 : ((l2 : Int) == 0) = false := by simpa using hn0
      have hd0 : decide ((l2 : Int) = 0) = false := by simpa using hn0
      have hb1 : (l2 == 0) = false := by simp; omega
      have hd1 : decide (l2 = 0) = false := by simp; omega
      obtain ⟨z, hz1, hz2⟩ : ∃ z : Int, (l2 : Int) - 1 = z ∧ z = (L : Int) := ⟨_, rfl, h1⟩
      have hz3 : z.toNat = L := by omega
      have hz4 : 0 ≤ z := by omega
      have hz5 : z < (l2 : Int) := by omega
      clear h1 hz2
      clear v3 v4 vG2 hS5 hgw hlast e hL HO HC HCo HCo1 HU1 HU2 HF1 HH0 HLN HTI HL1 HR HR1 HR2 HT1 HT2 HAT HA HA1 HAD Had1 Hmd Hhh Ht0 H0 hl0 hl1 hl2
      go_wp2
      go_ret
      exact ⟨rfl, hbW5⟩
    · clear v3 v4 vG2 cc5 hS5 hgw
      go_wp2
      go_ret
      exact ⟨rfl, hbW5⟩

end Go.Proofs.Qxb6617269a
