import Derived.Test.Qxb6617269aZWith
import Derived.Test.Qxb6617269aLogLaw
namespace Go.Proofs.Qxb6617269a
open Go.RowKit

theorem dr1 (w : World) (a : Nat) : ∃ q, w.drewN a = w.drewN q := ⟨a, rfl⟩
theorem dr2 (w : World) (a b : Nat) : ∃ q, (w.drewN a).drewN b = w.drewN q := ⟨a + b, by rw [World.drewN_drewN]⟩
theorem dr3 (w : World) (a b c : Nat) : ∃ q, ((w.drewN a).drewN b).drewN c = w.drewN q := ⟨a + (b + c), by rw [World.drewN_drewN, World.drewN_drewN]⟩

theorem shaped_yes (a1 a2 a3 a4 : Option Addr) (n k1 k2 k3 k4 : Nat) (w : World) :
    Calls Try.prog 14 #[.slice a1 n k1, .slice a2 n k2, .slice a3 n k3, .slice a4 n k4] w fun e w' => e = .returned (.bool true) ∧ w = w' := by
  go_enter Try.func14, Try.ntmps14
  go_wp2
  go_ret
  exact ⟨rfl, rfl⟩

theorem shaped_no (a1 a2 a3 a4 : Option Addr) (n n2 n3 n4 k1 k2 k3 k4 : Nat) (h : ¬ (n2 = n ∧ n3 = n ∧ n4 = n)) (w : World) :
    Calls Try.prog 14 #[.slice a1 n k1, .slice a2 n2 k2, .slice a3 n3 k3, .slice a4 n4 k4] w fun e w' => e = .returned (.bool false) ∧ w = w' := by
  by_cases h1 : n2 = n
  · subst h1
    by_cases h2 : n3 = n2
    · subst h2
      have h3 : ((n4 : Int) == (n3 : Int)) = false := by simp; omega
      clear h
      go_enter Try.func14, Try.ntmps14
      go_wp2
      go_ret
      exact ⟨rfl, rfl⟩
    · have h3 : ((n3 : Int) == (n2 : Int)) = false := by simp; omega
      clear h h2
      go_enter Try.func14, Try.ntmps14
      go_wp2
      go_ret
      exact ⟨rfl, rfl⟩
  · have h3 : ((n2 : Int) == (n : Int)) = false := by simp; omega
    clear h h1
    go_enter Try.func14, Try.ntmps14
    go_wp2
    go_ret
    exact ⟨rfl, rfl⟩

theorem all_drop {L : List Ent} {k : Nat} {f : Ent} {p : Ent → Bool} (hf : L[k]? = some f) : (L.drop k).all p = (p f && (L.drop (k + 1)).all p) := by
  rw [drop_cons hf, List.all_cons]

set_option maxHeartbeats 400000 in
theorem newest_any (a1 a2 a3 a4 : Option Addr) (n k1 k2 : Nat) (L : List Ent) (s c : Int) (w : World) (hn : n ≤ 1000000) (HL : Hid (n = L.length)) (hC : Cols w a1 a2 a3 a4 L) :
    Calls Try.prog 16 #[.slice a1 n k1, .slice a2 n k2, .int .i64 s, .int .i64 c] w fun e w' => e = .returned (.bool (newestB L s c)) ∧ w = w' := by
  go_enter Try.func16, Try.ntmps16
  go_wp2
  go_loop [9] (fun i => ∃ k : Nat, k ≤ n ∧ i = .int .i64 k ∧ Hid (newestB L s c = newestB (L.drop k) s c)) (fun i => n - (intOf i).toNat)
  case atStart => exact ⟨0, Nat.zero_le _, rfl, rfl⟩
  case round =>
    obtain ⟨k, hk, rfl, hI⟩ := hrel
    by_cases hlt : k < n
    · obtain ⟨f, hf⟩ : ∃ f, L[k]? = some f := ⟨L[k]'(by have := HL.out; omega), by simp⟩
      obtain ⟨⟨b1, o1, e1, c1⟩, ⟨b2, o2, e2, c2⟩, _, _⟩ := hC k f hf
      subst e1; subst e2
      have hst : newestB (L.drop k) s c = (!(f.site == s && decide (c ≤ f.ctr)) && newestB (L.drop (k + 1)) s c) := all_drop hf
      have HST : Hid (newestB L s c = (!(f.site == s && decide (c ≤ f.ctr)) && newestB (L.drop (k + 1)) s c)) := hI.out.trans hst
      clear hst hI hC hf
      obtain ⟨fs, fc, _, _, _, _⟩ := f
      by_cases h1 : fs = s
      · by_cases h2 : c ≤ fc
        · have e : Hid (newestB L s c = false) := by show _ = _; rw [HST.out]; simp [h1, h2]
          have h1' : (fs == s) = true := by simp [h1]
          clear HST h1
          go_wp2
          go_ret
          rw [e.out]; exact ⟨rfl, rfl⟩
        · have e : Hid (newestB L s c = newestB (L.drop (k + 1)) s c) := by show _ = _; rw [HST.out]; simp [h2]
          have h1' : (fs == s) = true := by simp [h1]
          have h2' : fc < c := by omega
          clear HST h1 h2
          go_wp2
          go_round
          case rel => exact ⟨k + 1, by omega, by go_num, e⟩
          case measure => simp [intOf]; omega
      · have h1' : (fs == s) = false := by simp [h1]
        have e : Hid (newestB L s c = newestB (L.drop (k + 1)) s c) := by show _ = _; rw [HST.out]; simp [h1']
        clear HST h1
        go_wp2
        go_round
        case rel => exact ⟨k + 1, by omega, by go_num, e⟩
        case measure => simp [intOf]; omega
    · have e : Hid (newestB L s c = true) := by show _ = _; rw [hI.out, List.drop_eq_nil_of_le (by have := HL.out; omega)]; rfl
      go_wp2
      go_ret
      rw [e.out]; exact ⟨rfl, rfl⟩

set_option maxHeartbeats 400000 in
theorem valid_any (a1 a2 a3 a4 : Option Addr) (n k1 k2 k3 : Nat) (L : List Ent) (w : World) (hn : n ≤ 1000000) (HL : Hid (n = L.length)) (hC : Cols w a1 a2 a3 a4 L) :
    Calls Try.prog 15 #[.slice a1 n k1, .slice a2 n k2, .slice a3 n k3] w fun e w' => e = .returned (.bool (validB L)) ∧ ∃ q, w' = w.drewN q := by
  have hnil := fun wx a n c => Lib.run_eql_slice_nil (P := Try.prog) wx 28 76 a n c 0 0 Try.underlying28
  go_enter Try.func15, Try.ntmps15
  go_wp2
  go_loopw [7] (fun i wr => ∃ (j q : Nat), i = .int .i64 ((j : Int) + 1) ∧ (j + 1 ≤ n ∨ j = 0) ∧ Hid (ordB L = ordB (L.drop j)) ∧ wr = w.drewN q) (fun i _ => n - (intOf i).toNat)
  case atStart => exact ⟨0, 0, rfl, .inr rfl, rfl, rfl⟩
  case round =>
    obtain ⟨j, q, rfl, hj, hI, rfl⟩ := hrel
    by_cases hlt : j + 1 < n
    · obtain ⟨e, he⟩ : ∃ f, L[j]? = some f := ⟨L[j]'(by have := HL.out; omega), by simp⟩
      obtain ⟨f, hf⟩ : ∃ f, L[j + 1]? = some f := ⟨L[j + 1]'(by have := HL.out; omega), by simp⟩
      obtain ⟨⟨b1, o1, e1, c1⟩, ⟨b2, o2, e2, c2⟩, _, _⟩ := hC j e he
      obtain ⟨⟨b1', o1', e1', c1'⟩, ⟨b2', o2', e2', c2'⟩, _, _⟩ := hC (j + 1) f hf
      subst e1; subst e2
      simp only [Option.some.injEq, Addr.mk.injEq, and_true] at e1' e2'
      obtain ⟨rfl, rfl⟩ := e1'
      obtain ⟨rfl, rfl⟩ := e2'
      have hd : L.drop j = e :: f :: L.drop (j + 1 + 1) := by rw [drop_cons he, drop_cons hf]
      have hd2 : L.drop (j + 1) = f :: L.drop (j + 1 + 1) := drop_cons hf
      have t1 := @ord_bad1 e f (L.drop (j + 1 + 1))
      have t2 := @ord_bad2 e f (L.drop (j + 1 + 1))
      have t3 := @ord_ok e f (L.drop (j + 1 + 1))
      rw [← hd] at t1 t2 t3
      rw [← hd2] at t3
      rw [← hI.out] at t1 t2 t3
      clear hI hd hd2 he hf
      have hlt' : (j : Int) + 1 < (n : Int) := by omega
      have hlt2 : (j : Int) < (n : Int) := by omega
      obtain ⟨es, ec, _, _, _, _⟩ := e
      obtain ⟨fs, fc, _, _, _, _⟩ := f
      by_cases g1 : fs < es
      · have e : Hid (ordB L = false) := t1 g1
        clear t1 t2 t3
        go_wp2
        go_quiet (fail)
        go_wp2
        go_ret
        rw [validB, e.out]; exact ⟨rfl, by first | exact dr1 _ _ | exact dr2 _ _ _ | exact dr3 _ _ _ _⟩
      · have g1' : decide (fs < es) = false := by simpa using g1
        by_cases g2 : es = fs
        · have g2' : (es == fs) = true := by simp [g2]
          by_cases g3 : fc ≤ ec
          · have e : Hid (ordB L = false) := t2 g2 g3
            clear t1 t2 t3 g2
            go_wp2
            go_quiet (fail)
            go_wp2
            go_quiet (fail)
            go_wp2
            go_ret
            rw [validB, e.out]; exact ⟨rfl, by first | exact dr1 _ _ | exact dr2 _ _ _ | exact dr3 _ _ _ _⟩
          · have e : Hid (ordB L = ordB (L.drop (j + 1))) := t3 g1 (fun h => g3 h.2)
            have g3' : decide (fc ≤ ec) = false := by simpa using g3
            clear t1 t2 t3 g2
            go_wp2
            go_quiet (fail)
            go_wp2
            go_quiet (fail)
            go_wp2
            go_roundw
            case rel => exact ⟨j + 1, _, by go_num, .inl (by omega), e, by first | rfl | simp only [World.drewN_drewN]⟩
            case measure => simp [intOf]; omega
        · have g2' : (es == fs) = false := by simp [g2]
          have e : Hid (ordB L = ordB (L.drop (j + 1))) := t3 g1 (fun h => g2 h.1)
          clear t1 t2 t3 g2
          go_wp2
          go_quiet (fail)
          go_wp2
          go_quiet (fail)
          go_wp2
          go_roundw
          case rel => exact ⟨j + 1, _, by go_num, .inl (by omega), e, by first | rfl | simp only [World.drewN_drewN]⟩
          case measure => simp [intOf]; omega
    · have hord : Hid (ordB L = true) := by
        show _ = _
        rw [hI.out]
        rcases hj with hj | rfl
        · have hl : (L.drop j).length = 1 := by rw [List.length_drop, ← HL.out]; omega
          obtain ⟨x, hx⟩ := List.length_eq_one_iff.1 hl
          rw [hx]; rfl
        · match h : L with
          | [] => rfl
          | [x] => rfl
          | _ :: _ :: _ => have := HL.out; simp at this; omega
      clear hI hj
      have hlt' : ¬ (j : Int) + 1 < (n : Int) := by omega
      go_wp2
      go_loopw [8] (fun i wr => ∃ (k q : Nat), i = .int .i64 k ∧ k ≤ n ∧ Hid (markB L = markB (L.drop k)) ∧ wr = w.drewN q) (fun i _ => n - (intOf i).toNat)
      case atStart => exact ⟨0, _, rfl, Nat.zero_le _, rfl, rfl⟩
      case round =>
        obtain ⟨k, q', rfl, hk, hI, rfl⟩ := hrel
        by_cases hkn : k + 1 < n
        · obtain ⟨e, he⟩ : ∃ f, L[k]? = some f := ⟨L[k]'(by have := HL.out; omega), by simp⟩
          obtain ⟨f, hf⟩ : ∃ f, L[k + 1]? = some f := ⟨L[k + 1]'(by have := HL.out; omega), by simp⟩
          obtain ⟨⟨b1, o1, e1, c1⟩, _, ⟨b3, o3, e3, c3⟩, _⟩ := hC k e he
          obtain ⟨⟨b1', o1', e1', c1'⟩, _, _, _⟩ := hC (k + 1) f hf
          subst e1; subst e3
          simp only [Option.some.injEq, Addr.mk.injEq, and_true] at e1'
          obtain ⟨rfl, rfl⟩ := e1'
          have hd : L.drop k = e :: f :: L.drop (k + 1 + 1) := by rw [drop_cons he, drop_cons hf]
          have hd2 : L.drop (k + 1) = f :: L.drop (k + 1 + 1) := drop_cons hf
          have t1 := @mark_bad e f (L.drop (k + 1 + 1))
          have t2 := fun q => @mark_ok1 e f (L.drop (k + 1 + 1)) q
          have t3 := @mark_ok2 e f (L.drop (k + 1 + 1))
          rw [← hd] at t1 t2 t3
          rw [← hd2] at t2 t3
          rw [← hI.out] at t1 t2 t3
          clear hI hd hd2 he hf
          have hkn' : (k : Int) + 1 < (n : Int) := by omega
          have hkn2 : (k : Int) < (n : Int) := by omega
          obtain ⟨es, ec, eda, edn, edc, _⟩ := e
          obtain ⟨fs, fc, _, _, _, _⟩ := f
          cases eda with
          | some qa =>
            have e : Hid (markB L = markB (L.drop (k + 1))) := t2 qa rfl
            clear t1 t2 t3
            go_wp2
            go_quiet (fail)
            go_wp2
            go_roundw
            case rel => exact ⟨k + 1, _, by go_num, by omega, e, by first | rfl | simp only [World.drewN_drewN]⟩
            case measure => simp [intOf]; omega
          | none =>
            by_cases g2 : fs = es
            · have g2' : (fs == es) = true := by simp [g2]
              have e : Hid (markB L = false) := t1 rfl g2
              clear t1 t2 t3 g2
              go_wp2
              go_quiet (fail)
              go_wp2
              go_ret
              rw [validB, e.out, hord.out]; exact ⟨rfl, by first | exact dr1 _ _ | exact dr2 _ _ _ | exact dr3 _ _ _ _⟩
            · have g2' : (fs == es) = false := by simp [g2]
              have e : Hid (markB L = markB (L.drop (k + 1))) := t3 g2
              clear t1 t2 t3 g2
              go_wp2
              go_quiet (fail)
              go_wp2
              go_roundw
              case rel => exact ⟨k + 1, _, by go_num, by omega, e, by first | rfl | simp only [World.drewN_drewN]⟩
              case measure => simp [intOf]; omega
        · have e : Hid (markB L = true) := by
            show _ = _
            rw [hI.out]
            match h : L.drop k with
            | [] => rfl
            | [x] => rfl
            | _ :: _ :: _ => have := HL.out; have := congrArg List.length h; simp at this; omega
          have hkn' : ¬ (k : Int) + 1 < (n : Int) := by omega
          clear hI
          go_wp2
          go_ret
          rw [validB, e.out, hord.out]; exact ⟨rfl, by first | exact dr1 _ _ | exact dr2 _ _ _ | exact dr3 _ _ _ _⟩

end Go.Proofs.Qxb6617269a
