import Derived.Test.Qxb6617269aHelp
namespace Go.Proofs.Qxb6617269a
open Go.RowKit
set_option linter.unusedVariables false

/-- The destinations of an entry can be read. -/
def SetOk (w : World) (da : Option Addr) (dn : Nat) : Prop := ∃ us : List Int, dn = us.length ∧ dn ≤ maxLen ∧ Row .u64 w da us

theorem SetOk.keep {w w' : World} {da : Option Addr} {dn : Nat} (h : SetOk w da dn) (hb : Below w.heap.size w w') : SetOk w' da dn := by
  obtain ⟨us, h1, h2, h3⟩ := h
  exact ⟨us, h1, h2, h3.keep hb⟩

theorem SetOk.drewN {w : World} {da : Option Addr} {dn : Nat} (h : SetOk w da dn) (q : Nat) : SetOk (w.drewN q) da dn := h

set_option maxHeartbeats 400000 in
/-- zzSameSet at one and the same slice: true. -/
theorem sameSet_self (a : Option Addr) (n c : Nat) (w : World) (h : SetOk w a n) :
    Calls Try.prog 33 #[.slice a n c, .slice a n c] w fun e w' => e = .returned (.bool true) ∧ ∃ q, w' = w.drewN q := by
  obtain ⟨us, hl, hm, hr⟩ := h
  unfold maxLen at hm
  have HL : Hid (n = us.length) := hl
  clear hl
  have hnil := fun wx a n c => Lib.run_eql_slice_nil (P := Try.prog) wx 28 76 a n c 0 0 Try.underlying28
  have hb : (a.isNone != a.isNone) = false := by simp
  go_enter Try.func33, Try.ntmps33
  go_wp2_with fail
  go_loopw [5] (fun i wr => ∃ (k q : Nat), k ≤ n ∧ i = .int .i64 k ∧ wr = w.drewN q) (fun i _ => n - (intOf i).toNat)
  case atStart => exact ⟨0, 0, Nat.zero_le _, rfl, rfl⟩
  case round =>
    obtain ⟨k, q, hk, rfl, rfl⟩ := hrel
    by_cases hlt : k < n
    · obtain ⟨b, off, rfl, hc, _⟩ := hr k (by rw [← HL.out]; exact hlt)
      have hlt' : (k : Int) < (n : Int) := by omega
      generalize us.getD k 0 = x at hc
      have hx : (x != x) = false := by simp
      clear hr
      go_wp2
      go_quiet (fail)
      go_wp2
      go_roundw
      case rel => exact ⟨k + 1, _, by omega, by go_num, by first | rfl | simp only [World.drewN_drewN]⟩
      case measure => simp [intOf]; omega
    · go_wp2
      go_ret
      exact ⟨rfl, dr1 _ _⟩

set_option maxHeartbeats 400000 in
/-- zzEntryAt at an entry that is the one at place j: true. -/
theorem entryAt_self (a1 a2 a3 a4 : Option Addr) (n k1 k2 k3 k4 j : Nat) (L : List Ent) (f : Ent) (w : World) (hn : n ≤ 1000000) (HL : Hid (n = L.length)) (hC : Cols w a1 a2 a3 a4 L) (hf : Hid (L[j]? = some f)) (hs : SetOk w f.da f.dn) :
    Calls Try.prog 23 #[.slice a1 n k1, .slice a2 n k2, .slice a3 n k3, .slice a4 n k4, .int .i64 j, .int .i64 f.site, .int .i64 f.ctr, .slice f.da f.dn f.dc, .int .i64 f.cr] w fun e w' => e = .returned (.bool true) ∧ ∃ q, w' = w.drewN q := by
  obtain ⟨⟨b1, o1, e1, c1⟩, ⟨b2, o2, e2, c2⟩, ⟨b3, o3, e3, c3⟩, ⟨b4, o4, e4, c4⟩⟩ := hC j f hf.out
  subst e1; subst e2; subst e3; subst e4
  have hj : j < n := by have := (List.getElem?_eq_some_iff.1 hf.out).1; rw [HL.out]; exact this
  have hj' : (j : Int) < (n : Int) := by omega
  have t1 : (f.site == f.site) = true := by simp
  have t2 : (f.ctr == f.ctr) = true := by simp
  have t3 : (f.cr == f.cr) = true := by simp
  clear hC
  go_enter Try.func23, Try.ntmps23
  go_wp2_with fail
  refine (sameSet_self _ _ _ _ hs).mono ?_
  rintro e w' ⟨rfl, q, rfl⟩
  go_wp2
  go_ret
  exact ⟨rfl, dr1 _ _⟩

set_option maxHeartbeats 800000 in
/-- zzSameLog at two readings of one and the same log: true. -/
theorem sameLog_self (a1 a2 a3 a4 b1 b2 b3 b4 : Option Addr) (n k1 k2 k3 k4 l1 l2 l3 l4 : Nat) (L : List Ent) (w : World) (hn : n ≤ 1000000) (HL : Hid (n = L.length)) (hA : Cols w a1 a2 a3 a4 L) (hB : Cols w b1 b2 b3 b4 L) (hS : ∀ f ∈ L, SetOk w f.da f.dn) :
    Calls Try.prog 18 #[.slice a1 n k1, .slice a2 n k2, .slice a3 n k3, .slice a4 n k4, .slice b1 n l1, .slice b2 n l2, .slice b3 n l3, .slice b4 n l4] w fun e w' => e = .returned (.bool true) ∧ ∃ q, w' = w.drewN q := by
  go_enter Try.func18, Try.ntmps18
  go_wp2_with (go_at_call 14; refine (shaped_yes _ _ _ _ _ _ _ _ _ _).mono ?_; rintro e w' ⟨rfl, rfl⟩)
  go_loopw [17] (fun i wr => ∃ (k q : Nat), k ≤ n ∧ i = .int .i64 k ∧ wr = w.drewN q) (fun i _ => n - (intOf i).toNat)
  case atStart => exact ⟨0, 0, Nat.zero_le _, rfl, rfl⟩
  case round =>
    obtain ⟨k, q, hk, rfl, rfl⟩ := hrel
    by_cases hlt : k < n
    · obtain ⟨f, hf⟩ : ∃ f, L[k]? = some f := ⟨L[k]'(by have := HL.out; omega), by simp⟩
      have HF : Hid (L[k]? = some f) := hf
      obtain ⟨⟨b1, o1, e1, c1⟩, ⟨b2, o2, e2, c2⟩, ⟨b3, o3, e3, c3⟩, ⟨b4, o4, e4, c4⟩⟩ := hB k f hf
      subst e1; subst e2; subst e3; subst e4
      have hs := hS f (List.mem_of_getElem? hf)
      have hlt' : (k : Int) < (n : Int) := by omega
      clear hf
      go_wp2
      refine wp_region_quiet_lit (by kernel_rfl) (by kernel_rfl) ?_
      repeat (go_big_quiet_step (fail))
      go_big_quiet_step (exact quiet_at (entryAt_self _ _ _ _ _ _ _ _ _ _ L f _ hn HL (by exact hA) HF (by exact hs)))
      repeat (go_big_quiet_step (fail))
      refine wpQuiet_nil ?_
      rintro _ ⟨nq, rfl⟩
      go_wp2
      go_roundw
      case rel => exact ⟨k + 1, _, by omega, by go_num, by first | rfl | simp only [World.drewN_drewN]⟩
      case measure => simp [intOf]; omega
    · go_wp2_with (go_at_call 14; refine (shaped_yes _ _ _ _ _ _ _ _ _ _).mono ?_; rintro e w' ⟨rfl, rfl⟩)
      go_ret
      exact ⟨rfl, dr1 _ _⟩

theorem cnt_drop {L : List Ent} {k : Nat} {f : Ent} {s c : Int} (hf : L[k]? = some f) : cnt s c (L.take (k + 1)) = cnt s c (L.take k) + if f.site = s ∧ f.ctr = c then 1 else 0 := by
  have hk : k < L.length := (List.getElem?_eq_some_iff.1 hf).1
  rw [List.take_succ_eq_append_getElem hk, cnt_append, (List.getElem?_eq_some_iff.1 hf).2]
  simp [cnt]

theorem cnt_le (s c : Int) (L : List Ent) : cnt s c L ≤ L.length := by
  induction L with
  | nil => simp [cnt]
  | cons f r ih => simp only [cnt, List.length_cons]; split <;> omega

set_option maxHeartbeats 800000 in
/-- zzHolds: the log holds e, once. -/
theorem holds_one (a1 a2 a3 a4 : Option Addr) (n k1 k2 k3 k4 : Nat) (L : List Ent) (e : Ent) (w : World) (hn : n ≤ 1000000) (HL : Hid (n = L.length)) (hA : Cols w a1 a2 a3 a4 L) (hs : SetOk w e.da e.dn)
    (h1 : Hid (cnt e.site e.ctr L = 1)) (h2 : ∀ f ∈ L, f.site = e.site ∧ f.ctr = e.ctr → f = e) :
    Calls Try.prog 19 #[.slice a1 n k1, .slice a2 n k2, .slice a3 n k3, .slice a4 n k4, .int .i64 e.site, .int .i64 e.ctr, .slice e.da e.dn e.dc, .int .i64 e.cr] w fun x w' => x = .returned (.bool true) ∧ ∃ q, w' = w.drewN q := by
  go_enter Try.func19, Try.ntmps19
  go_wp2_with fail
  go_loopw [17, 18] (fun c i wr => ∃ (k q m : Nat), k ≤ n ∧ i = .int .i64 k ∧ c = .int .i64 m ∧ m ≤ k ∧ Hid (m = cnt e.site e.ctr (L.take k)) ∧ wr = w.drewN q) (fun _ i _ => n - (intOf i).toNat)
  case atStart => exact ⟨0, 0, 0, Nat.zero_le _, rfl, rfl, Nat.le_refl _, rfl, rfl⟩
  case round =>
    obtain ⟨k, q, m, hk, rfl, rfl, hm, hI, rfl⟩ := hrel
    by_cases hlt : k < n
    · obtain ⟨f, hf⟩ : ∃ f, L[k]? = some f := ⟨L[k]'(by have := HL.out; omega), by simp⟩
      have hcd := cnt_drop (s := e.site) (c := e.ctr) hf
      obtain ⟨⟨b1, o1, e1, c1⟩, ⟨b2, o2, e2, c2⟩, _, _⟩ := hA k f hf
      subst e1; subst e2
      have hlt' : (k : Int) < (n : Int) := by omega
      by_cases g1 : f.site = e.site
      · by_cases g2 : f.ctr = e.ctr
        · have hfe := h2 f (List.mem_of_getElem? hf) ⟨g1, g2⟩
          subst hfe
          have HF : Hid (L[k]? = some f) := hf
          rw [if_pos ⟨rfl, rfl⟩, ← hI.out] at hcd
          have HI : Hid (m + 1 = cnt f.site f.ctr (L.take (k + 1))) := hcd.symm
          have t1 : (f.site == f.site) = true := by simp
          have t2 : (f.ctr == f.ctr) = true := by simp
          clear hf hcd hI g1 g2
          go_wp2_with fail
          refine (entryAt_self _ _ _ _ _ _ _ _ _ _ L f _ hn HL (by exact hA) HF (by exact hs)).mono ?_
          rintro x w' ⟨rfl, q', rfl⟩
          go_wp2
          go_roundw
          case rel => exact ⟨k + 1, _, m + 1, by omega, by go_num, by go_num, by omega, HI, by first | rfl | simp only [World.drewN_drewN]⟩
          case measure => simp [intOf]; omega
        · have t1 : (f.site == e.site) = true := by simp [g1]
          have t2 : (f.ctr == e.ctr) = false := by simp [g2]
          rw [if_neg (fun h => g2 h.2), ← hI.out] at hcd
          have HI : Hid (m = cnt e.site e.ctr (L.take (k + 1))) := hcd.symm
          clear hf hcd hI g1 g2 h2
          go_wp2
          go_roundw
          case rel => exact ⟨k + 1, _, m, by omega, by go_num, rfl, by omega, HI, by first | rfl | simp only [World.drewN_drewN]⟩
          case measure => simp [intOf]; omega
      · have t1 : (f.site == e.site) = false := by simp [g1]
        rw [if_neg (fun h => g1 h.1), ← hI.out] at hcd
        have HI : Hid (m = cnt e.site e.ctr (L.take (k + 1))) := hcd.symm
        clear hf hcd hI g1 h2
        go_wp2
        go_roundw
        case rel => exact ⟨k + 1, _, m, by omega, by go_num, rfl, by omega, HI, by first | rfl | simp only [World.drewN_drewN]⟩
        case measure => simp [intOf]; omega
    · have hm1 : m = 1 := by
        have h := hI.out
        rw [List.take_of_length_le (by rw [← HL.out]; omega), h1.out] at h
        exact h
      subst hm1
      clear hI h2
      go_wp2
      go_ret
      exact ⟨rfl, dr1 _ _⟩

set_option maxHeartbeats 800000 in
/-- zzHasID: no entry bears this name. -/
theorem hasID_no (a1 a2 a3 a4 : Option Addr) (n k1 k2 : Nat) (L : List Ent) (s c : Int) (w : World) (hn : n ≤ 1000000) (HL : Hid (n = L.length)) (hA : Cols w a1 a2 a3 a4 L) (h : ∀ f ∈ L, ¬ (f.site = s ∧ f.ctr = c)) :
    Calls Try.prog 21 #[.slice a1 n k1, .slice a2 n k2, .int .i64 s, .int .i64 c] w fun x w' => x = .returned (.bool false) ∧ w = w' := by
  go_enter Try.func21, Try.ntmps21
  go_wp2
  go_loop [9] (fun i => ∃ k : Nat, k ≤ n ∧ i = .int .i64 k) (fun i => n - (intOf i).toNat)
  case atStart => exact ⟨0, Nat.zero_le _, rfl⟩
  case round =>
    obtain ⟨k, hk, rfl⟩ := hrel
    by_cases hlt : k < n
    · obtain ⟨f, hf⟩ : ∃ f, L[k]? = some f := ⟨L[k]'(by have := HL.out; omega), by simp⟩
      have hno := h f (List.mem_of_getElem? hf)
      obtain ⟨⟨b1, o1, e1, c1⟩, ⟨b2, o2, e2, c2⟩, _, _⟩ := hA k f hf
      subst e1; subst e2
      have hlt' : (k : Int) < (n : Int) := by omega
      by_cases g1 : f.site = s
      · have g2 : ¬ f.ctr = c := fun g2 => hno ⟨g1, g2⟩
        have t1 : (f.site == s) = true := by simp [g1]
        have t2 : (f.ctr == c) = false := by simp [g2]
        clear hf h hno g1 g2
        go_wp2
        go_round
        case rel => exact ⟨k + 1, by omega, by go_num⟩
        case measure => simp [intOf]; omega
      · have t1 : (f.site == s) = false := by simp [g1]
        clear hf h hno g1
        go_wp2
        go_round
        case rel => exact ⟨k + 1, by omega, by go_num⟩
        case measure => simp [intOf]; omega
    · clear h
      go_wp2
      go_ret
      exact ⟨rfl, rfl⟩

end Go.Proofs.Qxb6617269a
