/-
  Steps of a count: rows of pairs, and the small functions over them (zzMax, zzTopOf, zzBlockOf).
-/
import Derived.Test.Qxb6617269aLaws
namespace Go.Proofs.Qxb6617269a
open Go.RowKit
set_option linter.unusedVariables false

/-- A row of steps, two cells each. -/
def SRow (w : World) (a : Option Addr) (S : List (Int × Int)) : Prop :=
  ∀ j p, S[j]? = some p → ∃ b off, a = some ⟨b, off, none⟩ ∧ w.cell? ⟨b, off + j * 2, none⟩ = some (.int .i64 p.1) ∧ w.cell? ⟨b, off + j * 2 + 1, none⟩ = some (.int .i64 p.2)

def topOf (S : List (Int × Int)) : Int := match S.getLast? with | some p => p.1 | none => 0

theorem max_any (x y : Int) (w : World) : Calls Try.prog 28 #[.int .i64 x, .int .i64 y] w fun e w' => e = .returned (.int .i64 (max x y)) ∧ w' = w := by
  by_cases h : y < x
  · have e : max x y = x := by omega
    rw [e]
    go_enter Try.func28, Try.ntmps28
    go_wp2
    go_ret
    exact ⟨rfl, rfl⟩
  · have e : max x y = y := by omega
    rw [e]
    go_enter Try.func28, Try.ntmps28
    go_wp2
    go_ret
    exact ⟨rfl, rfl⟩

theorem topOf_any (a : Option Addr) (n c : Nat) (S : List (Int × Int)) (w : World) (hn : n ≤ maxLen) (HL : Hid (n = S.length)) (hR : SRow w a S) :
    Calls Try.prog 27 #[.slice a n c] w fun e w' => e = .returned (.int .i64 (topOf S)) ∧ w' = w := by
  by_cases h0 : n = 0
  · subst h0
    have e : S = [] := List.eq_nil_of_length_eq_zero HL.out.symm
    subst e
    go_enter Try.func27, Try.ntmps27
    go_wp2
    go_ret
    exact ⟨rfl, rfl⟩
  · obtain ⟨k, hk⟩ : ∃ k, n = k + 1 := ⟨n - 1, by omega⟩
    have HK : Hid (n = k + 1) := hk
    have hlt : k < S.length := by have := HL.out; omega
    obtain ⟨p, hp⟩ : ∃ p, S[k]? = some p := ⟨S[k], by simp⟩
    have e : topOf S = p.1 := by
      unfold topOf
      rw [List.getLast?_eq_getElem?, ← HL.out, hk]
      simp [hp]
    rw [e]
    obtain ⟨b, off, rfl, c0, c1⟩ := hR k p hp
    have h1 : (n : Int) - 1 = (k : Int) := by omega
    have hw : wrap64 (k : Int) = (k : Int) := by
      have : (k : Int) ≤ 9223372036854775806 := by unfold maxLen at hn; omega
      unfold wrap64; omega
    have hkn : k < n := by omega
    have hkn' : (k : Int) < (n : Int) := by omega
    have hn0 : ¬ (n : Int) = 0 := by omega
    clear hk hR hp e
    go_enter Try.func27, Try.ntmps27
    go_wp2
    go_ret
    exact ⟨rfl, rfl⟩

/-- The source whose block holds count i, or -1. -/
def blockOf (i c n : Nat) : Int := if i / c < n then ((i / c : Nat) : Int) else -1

theorem blockOf_at {i c n k : Nat} (hc : 0 < c) (h1 : k * c ≤ i) (h2 : i < k * c + c) (hk : k < n) : blockOf i c n = (k : Int) := by
  have e : i / c = k := by
    apply Nat.div_eq_of_lt_le
    · exact h1
    · rw [Nat.succ_mul]; exact h2
  unfold blockOf
  rw [e, if_pos hk]

theorem blockOf_no {i c n : Nat} (hc : 0 < c) (h1 : n * c ≤ i) : blockOf i c n = -1 := by
  have : n ≤ i / c := (Nat.le_div_iff_mul_le hc).2 h1
  unfold blockOf
  rw [if_neg (by omega)]

set_option maxHeartbeats 400000 in
theorem blockOf_any (i c n : Nat) (w : World) (hi : i ≤ 65536) (hc : 0 < c) (hcm : (c : Int) ≤ 9223372036854775807) (hn : n ≤ 65536) :
    Calls Try.prog 25 #[.int .i64 i, .int .i64 c, .int .i64 n] w fun e w' => e = .returned (.int .i64 (blockOf i c n)) ∧ w' = w := by
  go_enter Try.func25, Try.ntmps25
  go_wp2_with fail
  go_loopw [7, 8] (fun l j wr => ∃ k m : Nat, k ≤ n ∧ j = .int .i64 k ∧ l = .int .i64 m ∧ m ≤ i ∧ Hid (m = k * c) ∧ wr = w) (fun _ j _ => n - (intOf j).toNat)
  case atStart => exact ⟨0, 0, Nat.zero_le _, rfl, rfl, Nat.zero_le _, by show _ = _; simp, rfl⟩
  case round =>
    obtain ⟨k, m, hk, rfl, rfl, hm, HM, rfl⟩ := hrel
    by_cases hlt : k < n
    · have hlt' : (k : Int) < (n : Int) := by omega
      by_cases hs : i < m + c
      · have e : Hid _ := blockOf_at (n := n) hc (by rw [← HM.out]; exact hm) (by rw [← HM.out]; exact hs) hlt
        have hs' : (i : Int) - (m : Int) < (c : Int) := by omega
        go_wp2
        go_ret
        exact ⟨by rw [e.out]; rfl, rfl⟩
      · have hs' : (c : Int) ≤ (i : Int) - (m : Int) := by omega
        have hge : m + c ≤ i := by omega
        have HM' : Hid (m + c = (k + 1) * c) := by show _ = _; rw [Nat.succ_mul, ← HM.out]
        clear hs
        go_wp2
        go_roundw
        case rel => exact ⟨k + 1, m + c, by omega, by go_num, by go_num, hge, HM', by first | rfl | trivial⟩
        case measure => simp [intOf]; omega
    · have kn : k = n := by omega
      subst kn
      have e : Hid _ := blockOf_no (n := k) hc (by rw [← HM.out]; exact hm)
      go_wp2
      go_ret
      exact ⟨by rw [e.out]; rfl, rfl⟩

set_option maxHeartbeats 400000 in
/-- Two rows of the same steps. -/
theorem sameSteps_is (a a' : Option Addr) (n c c' : Nat) (S : List (Int × Int)) (w : World) (hn : n ≤ 65536) (HL : Hid (n = S.length)) (hR : SRow w a S) (hR' : SRow w a' S) :
    Calls Try.prog 30 #[.slice a n c, .slice a' n c'] w fun e w' => e = .returned (.bool true) ∧ ∃ q, w' = w.drewN q := by
  go_enter Try.func30, Try.ntmps30
  go_wp2_with fail
  go_loopw [5] (fun i wr => ∃ k q : Nat, k ≤ n ∧ i = .int .i64 k ∧ wr = w.drewN q) (fun i _ => n - (intOf i).toNat)
  case atStart => exact ⟨0, 0, Nat.zero_le _, rfl, rfl⟩
  case round =>
    obtain ⟨k, q, hk, rfl, rfl⟩ := hrel
    by_cases hlt : k < n
    · obtain ⟨p, hp⟩ : ∃ p, S[k]? = some p := ⟨S[k]'(by have := HL.out; omega), by simp⟩
      obtain ⟨b, off, rfl, c0, c1⟩ := hR k p hp
      obtain ⟨b', off', rfl, c0', c1'⟩ := hR' k p hp
      have hlt' : (k : Int) < (n : Int) := by omega
      clear hp hR hR'
      go_wp2
      go_quiet (fail)
      go_wp2
      go_roundw
      case rel => exact ⟨k + 1, _, by omega, by go_num, by first | rfl | simp only [World.drewN_drewN]⟩
      case measure => simp [intOf]; omega
    · go_wp2
      go_ret
      exact ⟨rfl, q, rfl⟩

end Go.Proofs.Qxb6617269a
