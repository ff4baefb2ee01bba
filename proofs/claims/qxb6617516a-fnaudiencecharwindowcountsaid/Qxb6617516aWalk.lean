import Derived.Test.Qxb6617516aRows
import Derived.WalkKit
import Derived.WalkSpells
import Derived.Below
namespace Go.Proofs.Qxb6617516a
open Go.RowKit

/-- How many of the numbers from a up to b (b left out) lie in [33, 127). -/
def vis (a b : Int) : Int := max 0 (min b 127 - max a 33)
/-- Does k lie among the numbers from a up to b? -/
def hit (k a b : Int) : Int := if a ≤ k ∧ k < b then 1 else 0

theorem vis_zero (a : Int) : vis a a = 0 := by unfold vis; omega
theorem hit_zero (k a : Int) : hit k a a = 0 := by unfold hit; rw [if_neg (by omega)]
theorem vis_yes {a i : Int} (h : a ≤ i) (h1 : 33 ≤ i) (h2 : i < 127) : vis a (i + 1) = vis a i + 1 := by unfold vis; omega
theorem vis_no {a i : Int} (h : a ≤ i) (h1 : i < 33 ∨ 127 ≤ i) : vis a (i + 1) = vis a i := by unfold vis; omega
theorem hit_yes {a i : Int} (h : a ≤ i) : hit i a (i + 1) = hit i a i + 1 := by
  unfold hit; rw [if_pos (by omega), if_neg (by omega)]; rfl
theorem hit_no {k a i : Int} (h : i ≠ k) : hit k a (i + 1) = hit k a i := by
  unfold hit
  by_cases h1 : a ≤ k ∧ k < i
  · rw [if_pos h1, if_pos (by omega)]
  · rw [if_neg h1, if_neg (by omega)]
theorem hit_bd (k a b : Int) : 0 ≤ hit k a b ∧ hit k a b ≤ 1 := by unfold hit; split <;> omega
theorem vis_bd (a b : Int) : 0 ≤ vis a b ∧ vis a b ≤ 94 := by unfold vis; omega

/-- The rune is visible. -/
theorem zzvis_any (x : Int) (w : World) : Calls Try.prog 5 #[.int .i32 x] w fun e w' => e = .returned (.bool (decide (x ≤ 32) || decide (126 < x))) ∧ w = w' := by
  by_cases h1 : x ≤ 32
  · have e : (decide (x ≤ 32) || decide (126 < x)) = true := by simp [h1]
    rw [e]
    clear e
    go_enter Try.func5, Try.ntmps5
    go_wp2
    go_ret
    exact ⟨rfl, rfl⟩
  · by_cases h2 : 126 < x
    · have e : (decide (x ≤ 32) || decide (126 < x)) = true := by simp [h2]
      rw [e]
      clear e
      go_enter Try.func5, Try.ntmps5
      go_wp2
      go_ret
      exact ⟨rfl, rfl⟩
    · have e : (decide (x ≤ 32) || decide (126 < x)) = false := by simp [h1, h2]
      rw [e]
      clear e
      go_enter Try.func5, Try.ntmps5
      go_wp2
      go_ret
      exact ⟨rfl, rfl⟩

theorem overlap_any (a b : Int) (w : World) (ha : -2147483648 ≤ a) (hb : b ≤ 2147483648) (hab : a ≤ b) :
    Calls Try.prog 6 #[.int .i64 a, .int .i64 b, .int .i64 33, .int .i64 127] w fun e w' => e = .returned (.int .i64 (vis a b)) ∧ w = w' := by
  by_cases h1 : a < 33
  · by_cases h2 : 127 < b
    · have e : vis a b = 94 := by unfold vis; omega
      rw [e]; clear e
      go_enter Try.func6, Try.ntmps6
      go_wp2
      go_ret
      exact ⟨rfl, rfl⟩
    · by_cases h3 : 33 < b
      · have e : vis a b = b - 33 := by unfold vis; omega
        rw [e]; clear e
        go_enter Try.func6, Try.ntmps6
        go_wp2
        go_ret
        exact ⟨rfl, rfl⟩
      · have e : vis a b = 0 := by unfold vis; omega
        rw [e]; clear e
        go_enter Try.func6, Try.ntmps6
        go_wp2
        go_ret
        exact ⟨rfl, rfl⟩
  · by_cases h2 : 127 < b
    · by_cases h3 : a < 127
      · have e : vis a b = 127 - a := by unfold vis; omega
        rw [e]; clear e
        go_enter Try.func6, Try.ntmps6
        go_wp2
        go_ret
        exact ⟨rfl, rfl⟩
      · have e : vis a b = 0 := by unfold vis; omega
        rw [e]; clear e
        go_enter Try.func6, Try.ntmps6
        go_wp2
        go_ret
        exact ⟨rfl, rfl⟩
    · by_cases h3 : a < b
      · have e : vis a b = b - a := by unfold vis; omega
        rw [e]; clear e
        go_enter Try.func6, Try.ntmps6
        go_wp2
        go_ret
        exact ⟨rfl, rfl⟩
      · have e : vis a b = 0 := by unfold vis; omega
        rw [e]; clear e
        go_enter Try.func6, Try.ntmps6
        go_wp2
        go_ret
        exact ⟨rfl, rfl⟩

set_option maxHeartbeats 1000000 in
theorem core (lo n : Int) (w : World) (h1 : -2147483648 ≤ lo) (h2 : lo ≤ 2147483647) (h3 : 0 ≤ n) (h4 : n ≤ 65536) (h5 : lo + n ≤ 2147483648) :
    Calls Try.prog 3 #[.int .i32 lo, .int .i64 n] w fun e w' => e = .returned (.bool true) ∧ w = w' := by
  go_enter Try.func3, Try.ntmps3
  go_wp2_with fail
  go_loop [7, 8, 9] (fun v a i => ∃ (i' v' a' : Int), lo ≤ i' ∧ i' ≤ lo + n ∧ i = .int .i64 i' ∧ v = .int .i64 v' ∧ a = .int .i64 a' ∧ 0 ≤ v' ∧ v' ≤ 94 ∧ -2 ≤ a' ∧ a' ≤ 94 ∧ Hid (v' = vis lo i') ∧ Hid (a' = vis lo i' - hit 34 lo i' - hit 92 lo i')) (fun _ _ i => (lo + n - intOf i).toNat)
  case atStart => exact ⟨lo, 0, 0, by omega, by omega, rfl, rfl, rfl, by omega, by omega, by omega, by omega, (vis_zero lo).symm, by show _ = _; rw [vis_zero, hit_zero, hit_zero]; rfl⟩
  case round =>
    obtain ⟨i, v, a, hi1, hi2, rfl, rfl, rfl, b1, b2, b3, b4, hv, ha⟩ := hrel
    by_cases hlt : i < lo + n
    · have hw : i ≤ 2147483647 := by omega
      by_cases c1 : i ≤ 32
      · have c1' : ¬ i = 34 := by omega
        have c2' : ¬ i = 92 := by omega
        have V : Hid (v = vis lo (i + 1)) := by show _ = _; rw [vis_no hi1 (by omega), ← hv.out]
        have A : Hid (a = vis lo (i + 1) - hit 34 lo (i + 1) - hit 92 lo (i + 1)) := by
          have h := ha.out
          show _ = _
          rw [vis_no hi1 (by omega), hit_no (k := 34) (a := lo) (i := i) (by omega), hit_no (k := 92) (a := lo) (i := i) (by omega)]; omega
        have bv := vis_bd lo (i + 1)
        rw [← V.out] at bv
        obtain ⟨bv1, bv2⟩ := bv
        have bh1 := hit_bd 34 lo (i + 1)
        have bh2 := hit_bd 92 lo (i + 1)
        have ba1 : -2 ≤ a := by have := A.out; have := V.out; omega
        have ba2 : a ≤ 94 := by have := A.out; have := V.out; omega
        clear bh1 bh2 hv ha
        go_wp2
        go_round
        case rel => exact ⟨i + 1, v, a, by omega, by omega, rfl, rfl, rfl, by omega, by omega, ba1, ba2, V, A⟩
        case measure => simp [intOf]; omega
      · by_cases c2 : 126 < i
        · have c1' : ¬ i = 34 := by omega
          have c2' : ¬ i = 92 := by omega
          have V : Hid (v = vis lo (i + 1)) := by show _ = _; rw [vis_no hi1 (by omega), ← hv.out]
          have A : Hid (a = vis lo (i + 1) - hit 34 lo (i + 1) - hit 92 lo (i + 1)) := by
            have h := ha.out
            show _ = _
            rw [vis_no hi1 (by omega), hit_no (k := 34) (a := lo) (i := i) (by omega), hit_no (k := 92) (a := lo) (i := i) (by omega)]; omega
          have bv := vis_bd lo (i + 1)
          rw [← V.out] at bv
          obtain ⟨bv1, bv2⟩ := bv
          have bh1 := hit_bd 34 lo (i + 1)
          have bh2 := hit_bd 92 lo (i + 1)
          have ba1 : -2 ≤ a := by have := A.out; have := V.out; omega
          have ba2 : a ≤ 94 := by have := A.out; have := V.out; omega
          clear bh1 bh2 hv ha
          go_wp2
          go_round
          case rel => exact ⟨i + 1, v, a, by omega, by omega, rfl, rfl, rfl, by omega, by omega, ba1, ba2, V, A⟩
          case measure => simp [intOf]; omega
        · by_cases c3 : i = 34
          · subst c3
            have V : Hid (v + 1 = vis lo (34 + 1)) := by show _ = _; rw [vis_yes hi1 (by omega) (by omega), ← hv.out]
            have A : Hid (a = vis lo (34 + 1) - hit 34 lo (34 + 1) - hit 92 lo (34 + 1)) := by
              have h := ha.out
              show _ = _
              rw [vis_yes hi1 (by omega) (by omega), hit_yes hi1, hit_no (k := 92) (a := lo) (i := 34) (by omega)]; omega
            have bv := vis_bd lo (34 + 1)
            rw [← V.out] at bv
            obtain ⟨bv1, bv2⟩ := bv
            have bh1 := hit_bd 34 lo (34 + 1)
            have bh2 := hit_bd 92 lo (34 + 1)
            have ba1 : -2 ≤ a := by have := A.out; have := V.out; omega
            have ba2 : a ≤ 94 := by have := A.out; have := V.out; omega
            clear bh1 bh2 hv ha
            go_wp2
            go_round
            case rel => exact ⟨34 + 1, v + 1, a, by omega, by omega, rfl, rfl, rfl, by omega, by omega, ba1, ba2, V, A⟩
            case measure => simp [intOf]; omega
          · by_cases c4 : i = 92
            · subst c4
              have V : Hid (v + 1 = vis lo (92 + 1)) := by show _ = _; rw [vis_yes hi1 (by omega) (by omega), ← hv.out]
              have A : Hid (a = vis lo (92 + 1) - hit 34 lo (92 + 1) - hit 92 lo (92 + 1)) := by
                have h := ha.out
                show _ = _
                rw [vis_yes hi1 (by omega) (by omega), hit_no (k := 34) (a := lo) (i := 92) (by omega), hit_yes hi1]; omega
              have bv := vis_bd lo (92 + 1)
              rw [← V.out] at bv
              obtain ⟨bv1, bv2⟩ := bv
              have bh1 := hit_bd 34 lo (92 + 1)
              have bh2 := hit_bd 92 lo (92 + 1)
              have ba1 : -2 ≤ a := by have := A.out; have := V.out; omega
              have ba2 : a ≤ 94 := by have := A.out; have := V.out; omega
              clear bh1 bh2 hv ha
              go_wp2
              go_round
              case rel => exact ⟨92 + 1, v + 1, a, by omega, by omega, rfl, rfl, rfl, by omega, by omega, ba1, ba2, V, A⟩
              case measure => simp [intOf]; omega
            · have c3' : (i == 34) = false := by simp [c3]
              have c4' : (i == 92) = false := by simp [c4]
              have V : Hid (v + 1 = vis lo (i + 1)) := by show _ = _; rw [vis_yes hi1 (by omega) (by omega), ← hv.out]
              have A : Hid (a + 1 = vis lo (i + 1) - hit 34 lo (i + 1) - hit 92 lo (i + 1)) := by
                have h := ha.out
                show _ = _
                rw [vis_yes hi1 (by omega) (by omega), hit_no (k := 34) (a := lo) (i := i) (by omega), hit_no (k := 92) (a := lo) (i := i) (by omega)]; omega
              have bv := vis_bd lo (i + 1)
              rw [← V.out] at bv
              obtain ⟨bv1, bv2⟩ := bv
              have bh1 := hit_bd 34 lo (i + 1)
              have bh2 := hit_bd 92 lo (i + 1)
              have ba1 : -2 ≤ a + 1 := by have := A.out; have := V.out; omega
              have ba2 : a + 1 ≤ 94 := by have := A.out; have := V.out; omega
              clear bh1 bh2 hv ha
              go_wp2
              go_round
              case rel => exact ⟨i + 1, v + 1, a + 1, by omega, by omega, rfl, rfl, rfl, by omega, by omega, ba1, ba2, V, A⟩
              case measure => simp [intOf]; omega
    · have e : i = lo + n := by omega
      subst e
      clear hi1 hi2 hlt
      go_wp2_with fail
      refine (overlap_any _ _ _ (by omega) (by omega) (by omega)).mono ?_
      rintro e w' ⟨rfl, rfl⟩
      rw [← hv.out] at ha ⊢
      have h34 : (lo ≤ 34 ∧ 34 < lo + n ∧ hit 34 lo (lo + n) = 1) ∨ (¬ (lo ≤ 34 ∧ 34 < lo + n) ∧ hit 34 lo (lo + n) = 0) := by
        unfold hit
        by_cases c : lo ≤ 34 ∧ 34 < lo + n
        · left; exact ⟨c.1, c.2, if_pos c⟩
        · right; exact ⟨c, if_neg c⟩
      have h92 : (lo ≤ 92 ∧ 92 < lo + n ∧ hit 92 lo (lo + n) = 1) ∨ (¬ (lo ≤ 92 ∧ 92 < lo + n) ∧ hit 92 lo (lo + n) = 0) := by
        unfold hit
        by_cases c : lo ≤ 92 ∧ 92 < lo + n
        · left; exact ⟨c.1, c.2, if_pos c⟩
        · right; exact ⟨c, if_neg c⟩
      have ha' := ha.out
      generalize hit 34 lo (lo + n) = p at h34 ha'
      generalize hit 92 lo (lo + n) = q at h92 ha'
      clear hv ha
      rcases h34 with ⟨c1, c2, c3⟩ | ⟨c1, c3⟩
      · rcases h92 with ⟨d1, d2, d3⟩ | ⟨d1, d3⟩
        · subst c3; subst d3
          obtain rfl : a = v - 1 - 1 := ha'
          go_wp2
          go_ret
          exact ⟨by simp, rfl⟩
        · subst c3; subst d3
          have ha2 : a = v - 1 := by omega
          subst ha2
          clear ha'
          by_cases d4 : lo ≤ 92
          · have d5 : lo + n ≤ 92 := by omega
            clear d1
            go_wp2
            go_ret
            exact ⟨by simp, rfl⟩
          · exact absurd c1 (by omega)
      · rcases h92 with ⟨d1, d2, d3⟩ | ⟨d1, d3⟩
        · subst c3; subst d3
          have ha2 : a = v - 1 := by omega
          subst ha2
          clear ha'
          by_cases c4 : lo ≤ 34
          · exact absurd c4 (by omega)
          · clear c1
            go_wp2
            go_ret
            exact ⟨by simp, rfl⟩
        · subst c3; subst d3
          have ha2 : a = v := by omega
          subst ha2
          clear ha'
          by_cases c4 : lo ≤ 34
          · have c5 : lo + n ≤ 34 := by omega
            have d5 : lo + n ≤ 92 := by omega
            have d6 : lo ≤ 92 := by omega
            clear c1 d1
            go_wp2
            go_ret
            exact ⟨by simp, rfl⟩
          · by_cases d4 : lo ≤ 92
            · have d5 : lo + n ≤ 92 := by omega
              clear c1 d1
              go_wp2
              go_ret
              exact ⟨by simp, rfl⟩
            · clear c1 d1
              go_wp2
              go_ret
              exact ⟨by simp, rfl⟩

end Go.Proofs.Qxb6617516a
