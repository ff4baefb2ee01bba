import Derived.Test.Qxb6617269aLaws
namespace Go.Proofs.Qxb6617269a
open Go.RowKit
open Plain (sum lex before Fit)

set_option maxHeartbeats 800000 in
theorem before_any (a b : Option Addr) (cap cap' n : Nat) (xs ys : List Int) (w : World) (hl : n ≤ 9223372036854775807) (hxl : n = xs.length) (hyl : n = ys.length)
    (hx : Row .i64 w a xs) (hy : Row .i64 w b ys) (fx : Fit xs) (fy : Fit ys) :
    Calls Try.prog 31 #[.slice a n cap, .slice b n cap'] w fun e w' => e = .returned (.bool (before xs ys)) ∧ ∃ q, w' = w.drewN q := by
  have HX : Hid (n = xs.length) := hxl
  have HY : Hid (n = ys.length) := hyl
  clear hxl hyl
  go_enter Try.func31, Try.ntmps31
  go_wp2
  go_loopw [5, 6, 11] (fun s t i wr => ∃ (k q : Nat) (s' t' : Int), k ≤ n ∧ i = .int .i64 k ∧ s = .int .i64 s' ∧ t = .int .i64 t' ∧ Hid (s' = sum (xs.take k)) ∧ Hid (t' = sum (ys.take k)) ∧ wr = w.drewN q) (fun _ _ i _ => n - (intOf i).toNat)
  case atStart => exact ⟨0, 0, 0, 0, Nat.zero_le _, rfl, rfl, rfl, rfl, rfl, rfl⟩
  case round =>
    obtain ⟨k, q, s, t, hk, rfl, rfl, rfl, hs, ht, rfl⟩ := hrel
    by_cases hlt : k < n
    · have e1 := Plain.sum_take_succ xs (k := k) (by rw [← HX.out]; exact hlt)
      have e2 := Plain.sum_take_succ ys (k := k) (by rw [← HY.out]; exact hlt)
      have b1 := fx.take k
      have b2 := fy.take k
      have b1' := fx.take (k + 1)
      have b2' := fy.take (k + 1)
      rw [e1, ← hs.out] at b1'
      rw [e2, ← ht.out] at b2'
      rw [← hs.out] at b1 e1
      rw [← ht.out] at b2 e2
      obtain ⟨bx, ox, rfl, cx, wx⟩ := hx k (by rw [← HX.out]; exact hlt)
      obtain ⟨bY, oy, rfl, cy, wy⟩ := hy k (by rw [← HY.out]; exact hlt)
      have ux := wf_i64 wx
      have uy := wf_i64 wy
      clear wx wy hx hy
      unfold Plain.top at b1 b2 b1' b2'
      generalize xs.getD k 0 = x at *
      generalize ys.getD k 0 = y at *
      have E1 : Hid (s + x = sum (xs.take (k+1))) := e1.symm
      have E2 : Hid (t + y = sum (ys.take (k+1))) := e2.symm
      clear e1 e2
      have hlt' : (k : Int) < (n : Int) := by omega
      obtain ⟨b11, b12⟩ := b1
      obtain ⟨b21, b22⟩ := b2
      obtain ⟨b11', b12'⟩ := b1'
      obtain ⟨b21', b22'⟩ := b2'
      go_wp2
      go_quiet (fail)
      go_wp2
      go_roundw
      case rel => exact ⟨k + 1, _, s + x, t + y, by omega, by go_num, rfl, rfl, E1, E2, rfl⟩
      case measure => simp [intOf]; omega
    · have kn : k = n := by omega
      have es : s = sum xs := by rw [hs.out, List.take_of_length_le (by rw [← HX.out]; omega)]
      have et : t = sum ys := by rw [ht.out, List.take_of_length_le (by rw [← HY.out]; omega)]
      have ES : Hid (s = sum xs) := es
      have ET : Hid (t = sum ys) := et
      clear hs ht es et kn
      by_cases hst : s = t
      · have heq : Hid (before xs ys = lex xs ys) := by unfold before; rw [← ES.out, ← ET.out, if_pos hst]; rfl
        have h1 : (s != t) = false := by simp [hst]
        clear hst ES ET
        go_wp2
        go_loopw [35] (fun i wr => ∃ (k q : Nat), k ≤ n ∧ i = .int .i64 k ∧ Hid (lex xs ys = lex (xs.drop k) (ys.drop k)) ∧ wr = w.drewN q) (fun i _ => n - (intOf i).toNat)
        case atStart => exact ⟨0, _, Nat.zero_le _, rfl, rfl, rfl⟩
        case round =>
          obtain ⟨j, q', hj, rfl, hr, rfl⟩ := hrel
          by_cases hjn : j < n
          · have jx : j < xs.length := by rw [← HX.out]; exact hjn
            have jy : j < ys.length := by rw [← HY.out]; exact hjn
            have l1 := @Plain.lex_same xs ys j jx jy
            have l2 := @Plain.lex_part xs ys j jx jy
            obtain ⟨bx, ox, rfl, cx, wx⟩ := hx j jx
            obtain ⟨bY, oy, rfl, cy, wy⟩ := hy j jy
            clear wx wy hx hy jx jy
            generalize xs.getD j 0 = x at *
            generalize ys.getD j 0 = y at *
            have hjn' : (j : Int) < (n : Int) := by omega
            by_cases hxy : x = y
            · have E : Hid (lex xs ys = lex (xs.drop (j + 1)) (ys.drop (j + 1))) := hr.out.trans (l1 hxy)
              clear l1 l2 hr
              have hne : (x != y) = false := by simp [hxy]
              clear hxy
              go_wp2
              go_quiet (fail)
              go_wp2
              go_roundw
              case rel => exact ⟨j + 1, _, by omega, by go_num, E, rfl⟩
              case measure => simp [intOf]; omega
            · have E : Hid (lex xs ys = decide (x < y)) := hr.out.trans (l2 hxy)
              clear l1 l2 hr
              have hne : (x != y) = true := by simp [hxy]
              clear hxy
              go_wp2
              go_quiet (fail)
              go_wp2
              go_quiet (fail)
              go_wp2
              go_ret
              rw [heq.out, E.out]
              exact ⟨rfl, _, by rw [World.drewN_drewN, World.drewN_drewN]⟩
          · have E : Hid (lex xs ys = false) := hr.out.trans (Plain.lex_end (by rw [← HX.out]; exact hjn))
            clear hr
            go_wp2
            go_ret
            rw [heq.out, E.out]
            exact ⟨rfl, _, rfl⟩
      · have heq : Hid (before xs ys = decide (s < t)) := by unfold before; rw [← ES.out, ← ET.out, if_neg hst]; rfl
        have h1 : (s != t) = true := by simp [hst]
        clear hst ES ET
        go_wp2
        go_ret
        rw [heq.out]
        exact ⟨rfl, _, rfl⟩

set_option maxHeartbeats 400000 in
theorem ZZbefore_any (a b : Option Addr) (cap cap' n : Nat) (xs ys : List Int) (w : World) (hl : n ≤ 9223372036854775807) (hxl : n = xs.length) (hyl : n = ys.length)
    (hx : Row .i64 w a xs) (hy : Row .i64 w b ys) (fx : Fit xs) (fy : Fit ys) :
    Calls Try.prog 11 #[.slice a n cap, .slice b n cap'] w fun e w' => e = .returned (.bool (before xs ys)) ∧ ∃ q, w' = w.drewN q := by
  have H : Hid (n = xs.length) := hxl
  have H' : Hid (n = ys.length) := hyl
  clear hxl hyl
  go_enter Try.func11, Try.ntmps11
  go_wp2_with fail
  refine (before_any a b cap cap' n xs ys w hl H.out H'.out hx hy fx fy).mono ?_
  rintro e w' ⟨rfl, q, rfl⟩
  go_wp2
  go_ret
  exact ⟨rfl, _, rfl⟩


/-- The same at a known answer. -/
theorem ZZbefore_is (a b : Option Addr) (cap cap' n : Nat) (xs ys : List Int) (w : World) (r : Bool) (hr : Hid (before xs ys = r)) (hl : n ≤ 9223372036854775807) (hxl : Hid (n = xs.length)) (hyl : Hid (n = ys.length))
    (hx : Row .i64 w a xs) (hy : Row .i64 w b ys) (fx : Fit xs) (fy : Fit ys) :
    Calls Try.prog 11 #[.slice a n cap, .slice b n cap'] w fun e w' => e = .returned (.bool r) ∧ ∃ q, w' = w.drewN q := by
  rw [← hr.out]
  exact ZZbefore_any a b cap cap' n xs ys w hl hxl.out hyl.out hx hy fx fy

/-- zzCountSum at a known answer. -/
theorem sum_is (a : Option Addr) (cap n : Nat) (xs : List Int) (w : World) (r : Option Int) (hr : Hid (Plain.csum 0 xs = r)) (hl : n ≤ 9223372036854775807) (hxl : Hid (n = xs.length)) (hc : Row .i64 w a xs) :
    Calls Try.prog 10 #[.slice a n cap] w fun e w' => e = .returned (sumOut r) ∧ w = w' := by
  have h := hxl.out
  subst h
  rw [← hr.out]
  exact sum_any a cap xs w hl hc

/-- A slice cut at its head by one. -/
theorem Row.tail {k : IntKind} {w : World} {b off : Nat} {xs : List Int} (h : Row k w (some ⟨b, off, none⟩) xs) : Row k w (some ⟨b, off + 1, none⟩) (xs.drop 1) := by
  intro j hj
  simp at hj
  obtain ⟨b', off', e, hc, hw⟩ := h (j + 1) (by omega)
  simp at e
  obtain ⟨rfl, rfl⟩ := e
  refine ⟨b, off + 1, rfl, ?_, ?_⟩
  · rw [show off + 1 + j = off + (j + 1) by omega, hc]; simp [List.getD]
  · simpa [List.getD, Nat.add_comm] using hw

theorem Row.none {k : IntKind} {w : World} {a : Option Addr} {xs : List Int} (h : xs.length = 0) : Row k w a xs := fun j hj => by omega

end Go.Proofs.Qxb6617269a
