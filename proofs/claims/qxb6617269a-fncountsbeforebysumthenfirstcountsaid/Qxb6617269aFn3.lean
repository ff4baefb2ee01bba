import Derived.Test.Qxb6617269aBefore
import Derived.Deep.DeepCutAuto
namespace Go.Proofs.Qxb6617269a
open Go.RowKit
open Plain (sum lex before Fit csum)

theorem bytes9_yes (a b : Option Addr) (n m cap cap' : Nat) (h : n + m ≤ 1048576) (w : World) :
    Calls Try.prog 9 #[.slice a n cap, .slice b m cap'] w fun e w' => e = .returned (.bool true) ∧ w = w' := by
  go_enter Try.func9, Try.ntmps9
  go_wp2
  go_ret
  exact ⟨rfl, rfl⟩

theorem bytes9_no (a b : Option Addr) (n m cap cap' : Nat) (h : ¬ n + m ≤ 1048576) (hn : n ≤ maxLen) (hm : m ≤ maxLen) (w : World) :
    Calls Try.prog 9 #[.slice a n cap, .slice b m cap'] w fun e w' => e = .returned (.bool false) ∧ w = w' := by
  unfold maxLen at hn hm
  go_enter Try.func9, Try.ntmps9
  by_cases h1 : n ≤ 1048576
  · by_cases h2 : m ≤ 1048576
    · go_wp2
      go_ret
      exact ⟨rfl, rfl⟩
    · go_wp2
      go_ret
      exact ⟨rfl, rfl⟩
  · go_wp2
    go_ret
    exact ⟨rfl, rfl⟩

set_option maxRecDepth 100000 in
set_option maxHeartbeats 1000000 in
theorem fn3_core (a b : Option Addr) (n cap cap' : Nat) (xs ys : List Int) (w : World) (hn : n ≤ 65536) (hxl : n = xs.length) (hyl : n = ys.length)
    (hx : Row .i64 w a xs) (hy : Row .i64 w b ys) (ha : a = none → cap = n) (hb : b = none → cap' = n) :
    Calls Try.prog 3 #[.slice a n cap, .slice b n cap'] w fun e w' => e = .returned (.bool true) ∧ Below w.heap.size w w' := by
  have HX : Hid (n = xs.length) := hxl
  have HY : Hid (n = ys.length) := hyl
  clear hxl hyl
  obtain ⟨i0, hi, hz0, hz1, hz2⟩ := info_parts Try.info3
  have hne := fun wx a n c => run_neq_slice_nil_any (P := Try.prog) wx 22 3 a n c 0 0 Try.underlying22
  go_enter Try.func3, Try.ntmps3
  go_upto_if 31 with (first | (go_at_call 9; refine (bytes9_yes _ _ _ _ _ _ (by omega) _).mono ?_; rintro e w' ⟨rfl, rfl⟩))
  go_cut [0] (fun v wx => ∃ a, v = .slice a n n ∧ Row .i64 wx a xs ∧ Below w.heap.size w wx)
  case first =>
    cases a with
    | none =>
      have h := ha rfl
      subst h
      clear ha hb
      go_wp2
      go_meet
      case rel => exact ⟨_, rfl, hx, Below.refl _ _⟩
    | some a =>
      go_upto_region 9 with (first | (at_make; refine wpList_make_blk rfl _ _ 22 rfl 3 i0 (.int .i64 0) Try.underlying22 hi hz0 n n rfl rfl (Nat.le_refl _) (by rw [hz2]; omega) (by unfold maxLen; omega) ?_; intro w1 hB1 hs1 hb1))
      rw [hz1] at hB1
      have hx1 := hx.keep hb1
      go_wp2_with (refine wpList_copy_blk rfl (.tmp 35) (.tmp 36) 22 22 rfl 3 Try.underlying22 Try.size3 _ n _ _ _ rfl rfl _ 3 hB1 (by rw [size_made]; omega) .i64 xs HX.out.symm hx1 ?_; intro w2 hB2 hs2 hb2)
      go_meet
      case rel => exact ⟨_, rfl, hB2.row hx.wf, hb1.trans hb2⟩
  case rest =>
    obtain ⟨a', rfl, hx', hb'⟩ := hcut
    have hy' := hy.keep hb'
    clear hx hy
    go_upto_if 40 with fail
    go_cut [1] (fun v wx => ∃ a, v = .slice a n n ∧ Row .i64 wx a' xs ∧ Row .i64 wx a ys ∧ Below w.heap.size w wx)
    case first =>
      cases b with
      | none =>
        have h := hb rfl
        subst h
        clear ha hb
        go_wp2
        go_meet
        case rel => exact ⟨_, rfl, hx', hy', hb'⟩
      | some b =>
        go_upto_region 13 with (first | (at_make; refine wpList_make_blk rfl _ _ 22 rfl 3 i0 (.int .i64 0) Try.underlying22 hi hz0 n n rfl rfl (Nat.le_refl _) (by rw [hz2]; omega) (by unfold maxLen; omega) ?_; intro w1 hB1 hs1 hb1))
        rw [hz1] at hB1
        have hy1 := hy'.keep hb1
        go_wp2_with (refine wpList_copy_blk rfl (.tmp 44) (.tmp 45) 22 22 rfl 3 Try.underlying22 Try.size3 _ n _ _ _ rfl rfl _ 3 hB1 (by rw [size_made]; omega) .i64 ys HY.out.symm hy1 ?_; intro w2 hB2 hs2 hb2)
        go_meet
        case rel => exact ⟨_, rfl, hx'.keep (hb1.trans hb2), hB2.row hy'.wf, hb'.trans ((hb1.trans hb2).mono hb'.size)⟩
    case rest =>
      obtain ⟨b', rfl, hx2, hy2, hb2⟩ := hcut
      clear hx' hy' hb' hne ha hb
      have hl : n ≤ 9223372036854775807 := by omega
      rcases h1 : csum 0 xs with _ | s
      · have H1 : Hid (csum 0 xs = none) := h1
        obtain ⟨r, H2⟩ : ∃ r, Hid (csum 0 ys = r) := ⟨_, rfl⟩
        clear h1
        go_wp2_with fail
        refine (sum_is _ _ _ xs _ _ H1 hl HX hx2).mono ?_
        rintro e w' ⟨rfl, rfl⟩
        simp only [sumOut]
        go_wp2_with fail
        refine (sum_is _ _ _ ys _ _ H2 hl HY hy2).mono ?_
        rintro e w' ⟨rfl, rfl⟩
        cases r
        all_goals
          simp only [sumOut]
          go_wp2
          go_ret
          exact ⟨rfl, hb2⟩
      · rcases h2 : csum 0 ys with _ | t
        · have H1 : Hid (csum 0 xs = some s) := h1
          have H2 : Hid (csum 0 ys = none) := h2
          clear h1 h2
          go_wp2_with fail
          refine (sum_is _ _ _ xs _ _ H1 hl HX hx2).mono ?_
          rintro e w' ⟨rfl, rfl⟩
          simp only [sumOut]
          go_wp2_with fail
          refine (sum_is _ _ _ ys _ _ H2 hl HY hy2).mono ?_
          rintro e w' ⟨rfl, rfl⟩
          simp only [sumOut]
          go_wp2
          go_ret
          exact ⟨rfl, hb2⟩
        · have H1 : Hid (csum 0 xs = some s) := h1
          have H2 : Hid (csum 0 ys = some t) := h2
          clear h1 h2
          obtain ⟨es, fx⟩ := Plain.fit_of_csum H1.out
          obtain ⟨et, fy⟩ := Plain.fit_of_csum H2.out
          have ES : Hid (s = sum xs) := es
          have ET : Hid (t = sum ys) := et
          clear es et
          obtain ⟨r1, hr1⟩ : ∃ r, Hid (before xs ys = r) := ⟨_, rfl⟩
          obtain ⟨r2, hr2⟩ : ∃ r, Hid (before ys xs = r) := ⟨_, rfl⟩
          go_wp2_with fail
          refine (sum_is _ _ _ xs _ _ H1 hl HX hx2).mono ?_
          rintro e w' ⟨rfl, rfl⟩
          simp only [sumOut]
          go_wp2_with fail
          refine (sum_is _ _ _ ys _ _ H2 hl HY hy2).mono ?_
          rintro e w' ⟨rfl, rfl⟩
          simp only [sumOut]
          go_wp2_with fail
          refine (ZZbefore_is _ _ _ _ _ xs ys _ r1 hr1 hl HX HY hx2 hy2 fx fy).mono ?_
          rintro e w' ⟨rfl, q1, rfl⟩
          go_wp2_with fail
          refine (ZZbefore_is _ _ _ _ _ ys xs _ r2 hr2 hl HY HX (hy2.drewN q1) (hx2.drewN q1) fy fx).mono ?_
          rintro e w' ⟨rfl, q2, rfl⟩
          clear H1 H2
          by_cases hst : s = t
          · have hst' : (s != t) = false := by simp [hst]
            have esum : sum xs = sum ys := by rw [← ES.out, ← ET.out, hst]
            have ESM : Hid (sum xs = sum ys) := esum
            clear esum hst
            by_cases hn0 : n = 0
            · subst hn0
              have e1 : r1 = false := by rw [← hr1.out]; exact Plain.before_nil HX.out HY.out
              have e2 : r2 = false := by rw [← hr2.out]; exact Plain.before_nil HY.out HX.out
              subst e1; subst e2
              go_wp2
              go_ret
              exact ⟨rfl, below_draws hb2 _⟩
            · have hn0' : ((n : Int) == 0) = false := by simp; omega
              have hpos : (0 : Int) < (n : Int) := by omega
              have p1 : 0 < xs.length := by rw [← HX.out]; omega
              have p2 : 0 < ys.length := by rw [← HY.out]; omega
              obtain ⟨b1, o1, rfl, c1, _⟩ := hx2 0 p1
              obtain ⟨b2, o2, rfl, c2, _⟩ := hy2 0 p2
              rw [Nat.add_zero] at c1 c2
              have f1 := @Plain.before_heads xs ys ESM.out p1 p2
              have f2 := @Plain.before_heads ys xs ESM.out.symm p2 p1
              have g1 := @Plain.before_tails xs ys ESM.out p1 p2
              have g2 := @Plain.before_tails ys xs ESM.out.symm p2 p1
              generalize xs.getD 0 0 = x at *
              generalize ys.getD 0 0 = y at *
              by_cases hxy : x = y
              · have hxy' : (x != y) = false := by simp [hxy]
                have e1 : Hid (before (xs.drop 1) (ys.drop 1) = r1) := by rw [← g1 hxy]; exact hr1
                have e2 : Hid (before (ys.drop 1) (xs.drop 1) = r2) := by rw [← g2 hxy.symm]; exact hr2
                clear f1 f2 g1 g2 hxy hr1 hr2
                have l1 : Hid (n - 1 = (xs.drop 1).length) := by show _ = _; rw [List.length_drop, ← HX.out]
                have l2 : Hid (n - 1 = (ys.drop 1).length) := by show _ = _; rw [List.length_drop, ← HY.out]
                have fx1 := fx.drop 1
                have fy1 := fy.drop 1
                by_cases hn1 : n = 1
                · subst hn1
                  have l1 : Hid (0 = (xs.drop 1).length) := l1
                  have l2 : Hid (0 = (ys.drop 1).length) := l2
                  have tx : Row .i64 wc (some ⟨b1, o1, none⟩) (xs.drop 1) := Row.none (by rw [← l1.out])
                  have ty : Row .i64 wc (some ⟨b2, o2, none⟩) (ys.drop 1) := Row.none (by rw [← l2.out])
                  go_wp2
                  go_quiet (fail)
                  go_wp2
                  refine wp_region_quiet_lit (by kernel_rfl) (by kernel_rfl) ?_
                  repeat (go_big_quiet_step (fail))
                  go_big_quiet_step (exact quiet_at (ZZbefore_is _ _ _ _ _ (xs.drop 1) (ys.drop 1) _ r1 e1 (by omega) l1 l2 (by exact tx) (by exact ty) fx1 fy1))
                  repeat (go_big_quiet_step (fail))
                  go_big_quiet_step (exact quiet_at (ZZbefore_is _ _ _ _ _ (ys.drop 1) (xs.drop 1) _ r2 e2 (by omega) l2 l1 (by exact ty) (by exact tx) fy1 fx1))
                  repeat (go_big_quiet_step (fail))
                  refine wpQuiet_nil ?_
                  rintro _ ⟨nq, rfl⟩
                  go_wp2
                  go_ret
                  exact ⟨rfl, by simp only [World.drewN_drewN]; exact below_draws hb2 _⟩
                · have tx := hx2.tail
                  have ty := hy2.tail
                  go_wp2
                  go_quiet (fail)
                  go_wp2
                  refine wp_region_quiet_lit (by kernel_rfl) (by kernel_rfl) ?_
                  repeat (go_big_quiet_step (fail))
                  go_big_quiet_step (exact quiet_at (ZZbefore_is _ _ _ _ _ (xs.drop 1) (ys.drop 1) _ r1 e1 (by omega) l1 l2 (by exact tx) (by exact ty) fx1 fy1))
                  repeat (go_big_quiet_step (fail))
                  go_big_quiet_step (exact quiet_at (ZZbefore_is _ _ _ _ _ (ys.drop 1) (xs.drop 1) _ r2 e2 (by omega) l2 l1 (by exact ty) (by exact tx) fy1 fx1))
                  repeat (go_big_quiet_step (fail))
                  refine wpQuiet_nil ?_
                  rintro _ ⟨nq, rfl⟩
                  go_wp2
                  go_ret
                  exact ⟨rfl, by simp only [World.drewN_drewN]; exact below_draws hb2 _⟩
              · have hxy' : (x != y) = true := by simp [hxy]
                have e1 : r1 = decide (x < y) := by rw [← hr1.out]; exact f1 hxy
                have e2 : r2 = decide (y < x) := by rw [← hr2.out]; exact f2 (fun h => hxy h.symm)
                clear f1 f2 g1 g2 hxy hr1 hr2
                subst e1; subst e2
                have t1 : (decide (x < y) == decide (x < y)) = true := by simp
                have t2 : (decide (y < x) == decide (y < x)) = true := by simp
                go_wp2
                go_quiet (fail)
                go_wp2
                go_quiet (fail)
                go_wp2
                go_ret
                exact ⟨rfl, by simp only [World.drewN_drewN]; exact below_draws hb2 _⟩
          · have hst' : (s != t) = true := by simp [hst]
            have e1 : r1 = decide (s < t) := by rw [← hr1.out]; exact Plain.before_sums ES.out ET.out hst
            have e2 : r2 = decide (t < s) := by rw [← hr2.out]; exact Plain.before_sums ET.out ES.out (fun h => hst h.symm)
            subst e1; subst e2
            go_wp2
            all_goals
              go_ret
              exact ⟨by simp, below_draws hb2 _⟩

end Go.Proofs.Qxb6617269a
