import Derived.Test.Qxb6617269aRows
import Derived.Test.Qxb6617269aPlain
import Derived.WalkKit
import Derived.WalkSpells
import Derived.Below
namespace Go.Proofs.Qxb6617269a
open Go.RowKit
open Plain (csum csum_neg csum_big csum_step csum_end)

/-- the two results of zzCountSum -/
def sumOut : Option Int → Value
  | none => .tuple #[.int .i64 0, .bool false]
  | some s => .tuple #[.int .i64 s, .bool true]

/-- A slice of integers as the walk reads it: the elements lie in a row of cells (of a nil or an empty slice no cell is asked), each fitting its kind. -/
def Row (k : IntKind) (w : World) (a : Option Addr) (xs : List Int) : Prop :=
  ∀ j, j < xs.length → ∃ b off, a = some ⟨b, off, none⟩ ∧ w.cell? ⟨b, off + j, none⟩ = some (.int k (xs.getD j 0)) ∧ (Lit.int k (xs.getD j 0)).wf = true

theorem wf_i64 {x : Int} (h : (Lit.int .i64 x).wf = true) : -9223372036854775808 ≤ x ∧ x ≤ 9223372036854775807 := by
  simp [Lit.wf, IntKind.min, IntKind.max, IntKind.signed, IntKind.bits] at h
  omega

set_option maxHeartbeats 400000 in
theorem sum_any (a : Option Addr) (cap : Nat) (xs : List Int) (w : World) (hl : xs.length ≤ 9223372036854775807) (hc : Row .i64 w a xs) :
    Calls Try.prog 10 #[.slice a xs.length cap] w fun e w' => e = .returned (sumOut (csum 0 xs)) ∧ w = w' := by
  go_enter Try.func10, Try.ntmps10
  go_wp2
  go_loop [4, 5] (fun s i => ∃ (k : Nat) (t : Int), k ≤ xs.length ∧ i = .int .i64 k ∧ s = .int .i64 t ∧ 0 ≤ t ∧ t ≤ 9223372036854775807 ∧ Hid (csum 0 xs = csum t (xs.drop k))) (fun _ i => xs.length - (intOf i).toNat)
  case atStart => exact ⟨0, 0, Nat.zero_le _, rfl, rfl, by omega, by omega, rfl⟩
  case round =>
    obtain ⟨k, t, hk, rfl, rfl, ht0, ht1, hcs⟩ := hrel
    by_cases hlt : k < xs.length
    · have h1 := @csum_neg xs k t hlt
      have h2 := @csum_big xs k t hlt
      have h3 := @csum_step xs k t hlt
      obtain ⟨b, off, rfl, hcell, hwf⟩ := hc k hlt
      have hbk := (wf_i64 hwf).2
      clear hc hwf
      generalize xs.getD k 0 = x at hcell hbk h1 h2 h3
      by_cases hx : x < 0
      · have e : Hid (csum 0 xs = none) := hcs.out.trans (h1 hx)
        clear h1 h2 h3
        go_wp2
        go_ret2
        rw [e.out]; exact ⟨rfl, rfl⟩
      · by_cases hy : 9223372036854775807 - x < t
        · have e : Hid (csum 0 xs = none) := hcs.out.trans (h2 hy)
          clear h1 h2 h3
          go_wp2
          go_ret2
          rw [e.out]; exact ⟨rfl, rfl⟩
        · have e : Hid (csum 0 xs = csum (t + x) (xs.drop (k + 1))) := hcs.out.trans (h3 (by omega) (by unfold Plain.top; omega))
          clear h1 h2 h3
          go_wp2
          go_round
          case rel => exact ⟨k + 1, t + x, by omega, by go_num, rfl, by omega, by omega, e⟩
          case measure => simp [intOf]; omega
    · have e : Hid (csum 0 xs = some t) := hcs.out.trans (csum_end hlt)
      go_wp2
      go_ret2
      rw [e.out]; exact ⟨rfl, rfl⟩

end Go.Proofs.Qxb6617269a
