import Derived.Test.Qxb6617495aToLines
namespace Go.Proofs.Qxb6617495a
open Go.RowKit

def Small (l : Ln) : Prop := l.t.size ≤ 1048576 ∧ l.e.size ≤ 1048576 ∧ l.k.size ≤ 1048576
def SmallTo (L : List Ln) (k : Nat) : Prop := ∀ j l, j < k → L[j]? = some l → Small l
theorem SmallTo.zero (L : List Ln) : SmallTo L 0 := fun j d h => by omega
theorem SmallTo.step {L : List Ln} {k : Nat} {d : Ln} (h : SmallTo L k) (hd : L[k]? = some d) (hs : Small d) : SmallTo L (k + 1) := by
  intro j d' hj hd'
  by_cases e : j = k
  · subst e; rw [hd] at hd'; cases hd'; exact hs
  · exact h j d' (by omega) hd'

/-- What the byte count answers: where it says yes, no string is long. -/
def BytesPost (L : List Ln) (n : Nat) (w : World) (e : Ending) (w' : World) : Prop := ∃ b, e = .returned (.bool b) ∧ w = w' ∧ Hid (b = true → SmallTo L n)

theorem bp_no {L : List Ln} {n : Nat} {w : World} : BytesPost L n w (.returned (.bool false)) w := ⟨false, rfl, rfl, fun h => by cases h⟩

set_option maxRecDepth 100000 in
set_option maxHeartbeats 1000000 in
theorem bytes_any (a : Option Addr) (n c : Nat) (v : Int) (L : List Ln) (w : World) (hn : n ≤ maxLen) (HL : Hid (n = L.length)) (hR : LRow w a L) (hok : ∀ l ∈ L, LnOk l) :
    Calls Try.prog 4 #[.slice a n c, .int .i64 v] w fun e w' => BytesPost L n w e w' := by
  unfold maxLen at hn
  go_enter Try.func4, Try.ntmps4
  by_cases g0 : n ≤ 1048576
  case neg =>
    go_wp2
    go_ret
    exact bp_no
  go_wp2_with fail
  go_loop [5, 6] (fun z i => ∃ (k t : Nat), k ≤ n ∧ i = .int .i64 k ∧ z = .int .i64 t ∧ t ≤ 1048576 ∧ SmallTo L k) (fun _ i => n - (intOf i).toNat)
  case atStart => exact ⟨0, n, Nat.zero_le _, rfl, rfl, g0, SmallTo.zero L⟩
  case round =>
    obtain ⟨k, t, hk, rfl, rfl, ht, hS⟩ := hrel
    by_cases hlt : k < n
    · obtain ⟨f, hf⟩ : ∃ f, L[k]? = some f := ⟨L[k]'(by have := HL.out; omega), by simp⟩
      obtain ⟨b, off, e, c0, c1, c2, _⟩ := hR k f hf
      obtain ⟨ok1, ok2, ok3⟩ := hok f (List.mem_of_getElem? hf)
      have hst := hS.step hf
      unfold maxLen at ok1 ok2 ok3
      subst e
      obtain ⟨ft, fe, fk, fd⟩ := f
      have hlt' : (k : Int) < (n : Int) := by omega
      clear hf hR hok
      have ok1 : ft.size ≤ 9223372036854775807 := ok1
      have ok2 : fe.size ≤ 9223372036854775807 := ok2
      have ok3 : fk.size ≤ 9223372036854775807 := ok3
      have c0 : w.cell? ⟨b, off + k * 4, none⟩ = some (.string ft) := c0
      have c1 : w.cell? ⟨b, off + k * 4 + 1, none⟩ = some (.string fe) := c1
      have c2 : w.cell? ⟨b, off + k * 4 + 2, none⟩ = some (.string fk) := c2
      by_cases g1 : ft.size ≤ 1048576
      case neg => (clear hst; go_wp2; go_ret; exact bp_no)
      by_cases g2 : t + ft.size ≤ 1048576
      case neg => (clear hst; go_wp2; go_ret; exact bp_no)
      by_cases g3 : fe.size ≤ 1048576
      case neg => (clear hst; go_wp2; go_ret; exact bp_no)
      by_cases g4 : t + ft.size + fe.size ≤ 1048576
      case neg => (clear hst; go_wp2; go_ret; exact bp_no)
      by_cases g5 : fk.size ≤ 1048576
      case neg => (clear hst; go_wp2; go_ret; exact bp_no)
      by_cases g6 : t + ft.size + fe.size + fk.size ≤ 1048576
      case neg => (clear hst; go_wp2; go_ret; exact bp_no)
      have hnx := hst ⟨g1, g3, g5⟩
      clear hst
      go_wp2
      go_round
      case rel => exact ⟨k + 1, t + ft.size + fe.size + fk.size, by omega, by go_num, by go_num, g6, hnx⟩
      case measure => simp [intOf]; omega
    · have kn : k = n := by omega
      subst kn
      go_wp2
      go_ret
      exact ⟨true, rfl, rfl, fun _ => hS⟩

end Go.Proofs.Qxb6617495a
