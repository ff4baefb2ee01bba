/-
  What the three laws on 'with' share: the destinations as they come in, the log out of its columns, the byte counts.
-/
import Derived.Test.Qxb6617269aHelp2
namespace Go.Proofs.Qxb6617269a
open Go.RowKit

/-- A slice of slices: element j is the header d. -/
def DRow (w : World) (a : Option Addr) (ds : List (Option Addr × Nat × Nat)) : Prop :=
  ∀ j d, ds[j]? = some d → ∃ b off, a = some ⟨b, off, none⟩ ∧ w.cell? ⟨b, off + j, none⟩ = some (.slice d.1 d.2.1 d.2.2)

theorem DRow.keep {w w' : World} {a : Option Addr} {ds : List (Option Addr × Nat × Nat)} (h : DRow w a ds) (hb : Below w.heap.size w w') : DRow w' a ds := by
  intro j d hd
  obtain ⟨b, off, e, c⟩ := h j d hd
  exact ⟨b, off, e, cell_keep hb c⟩

def DOk (w : World) (ds : List (Option Addr × Nat × Nat)) : Prop := ∀ d ∈ ds, SetOk w d.1 d.2.1

theorem DOk.keep {w w' : World} {ds : List (Option Addr × Nat × Nat)} (h : DOk w ds) (hb : Below w.heap.size w w') : DOk w' ds := fun d hd => (h d hd).keep hb

/-- The log out of its columns. -/
def mkL : List Int → List Int → List (Option Addr × Nat × Nat) → List Int → List Ent
  | x :: xs, y :: ys, d :: ds, c :: cs => ⟨x, y, d.1, d.2.1, d.2.2, c⟩ :: mkL xs ys ds cs
  | _, _, _, _ => []

theorem mkL_length : ∀ {xs ys : List Int} {ds : List (Option Addr × Nat × Nat)} {cs : List Int}, ys.length = xs.length → ds.length = xs.length → cs.length = xs.length → (mkL xs ys ds cs).length = xs.length
  | [], _, _, _, _, _, _ => by simp [mkL]
  | x :: xs, y :: ys, d :: ds, c :: cs, h1, h2, h3 => by simp only [mkL, List.length_cons]; rw [mkL_length (by simpa using h1) (by simpa using h2) (by simpa using h3)]
  | _ :: _, [], _, _, h, _, _ => by simp at h
  | _ :: _, _ :: _, [], _, _, h, _ => by simp at h
  | _ :: _, _ :: _, _ :: _, [], _, _, h => by simp at h

theorem mkL_at : ∀ {xs ys : List Int} {ds : List (Option Addr × Nat × Nat)} {cs : List Int} {j : Nat} {e : Ent}, (mkL xs ys ds cs)[j]? = some e → xs[j]? = some e.site ∧ ys[j]? = some e.ctr ∧ ds[j]? = some (e.da, e.dn, e.dc) ∧ cs[j]? = some e.cr
  | x :: xs, y :: ys, d :: ds, c :: cs, 0, e, h => by
    simp only [mkL, List.getElem?_cons_zero, Option.some.injEq] at h
    subst h
    simp
  | x :: xs, y :: ys, d :: ds, c :: cs, j + 1, e, h => by
    simp only [mkL, List.getElem?_cons_succ] at h ⊢
    exact mkL_at h
  | [], _, _, _, _, _, h => by simp [mkL] at h
  | _ :: _, [], _, _, _, _, h => by simp [mkL] at h
  | _ :: _, _ :: _, [], _, _, _, h => by simp [mkL] at h
  | _ :: _, _ :: _, _ :: _, [], _, _, h => by simp [mkL] at h

theorem mkL_cols {w : World} {a1 a2 a3 a4 : Option Addr} {xs ys : List Int} {ds : List (Option Addr × Nat × Nat)} {cs : List Int} (h1 : Row .i64 w a1 xs) (h2 : Row .i64 w a2 ys) (h3 : DRow w a3 ds) (h4 : Row .i64 w a4 cs) : Cols w a1 a2 a3 a4 (mkL xs ys ds cs) := by
  intro j e he
  obtain ⟨g1, g2, g3, g4⟩ := mkL_at he
  have at_ : ∀ {a : Option Addr} {zs : List Int} {z : Int}, Row .i64 w a zs → zs[j]? = some z → ∃ b off, a = some ⟨b, off, none⟩ ∧ w.cell? ⟨b, off + j, none⟩ = some (.int .i64 z) := by
    intro a zs z hr hz
    obtain ⟨hj, hz'⟩ := List.getElem?_eq_some_iff.1 hz
    obtain ⟨b, off, e1, c1, _⟩ := hr j hj
    refine ⟨b, off, e1, ?_⟩
    rw [c1]
    simp [List.getD, hz]
  exact ⟨at_ h1 g1, at_ h2 g2, h3 j _ g3, at_ h4 g4⟩

theorem mkL_sets {w : World} {xs ys : List Int} {ds : List (Option Addr × Nat × Nat)} {cs : List Int} (h : DOk w ds) : ∀ f ∈ mkL xs ys ds cs, SetOk w f.da f.dn := by
  intro f hf
  obtain ⟨j, hj⟩ := List.mem_iff_getElem?.1 hf
  obtain ⟨_, _, g3, _⟩ := mkL_at hj
  exact h _ (List.mem_of_getElem? g3)

/-- A copy of a slice of uint64 that is a row. -/
theorem SetOk.of_row {w : World} {a : Option Addr} {n : Nat} {us : List Int} (h : n = us.length) (hn : n ≤ maxLen) (hr : Row .u64 w a us) : SetOk w a n := ⟨us, h, hn, hr⟩

def SmallTo (ds : List (Option Addr × Nat × Nat)) (k : Nat) : Prop := ∀ j d, j < k → ds[j]? = some d → d.2.1 ≤ 1048576

theorem SmallTo.zero (ds : List (Option Addr × Nat × Nat)) : SmallTo ds 0 := fun j d h => by omega
theorem SmallTo.step {ds : List (Option Addr × Nat × Nat)} {k : Nat} {d : Option Addr × Nat × Nat} (h : SmallTo ds k) (hd : ds[k]? = some d) (hs : d.2.1 ≤ 1048576) : SmallTo ds (k + 1) := by
  intro j d' hj hd'
  by_cases e : j = k
  · subst e; rw [hd] at hd'; cases hd'; exact hs
  · exact h j d' (by omega) hd'

/-- What a byte count answers: where it says yes, no inner slice is long. -/
def BytesPost (ds : List (Option Addr × Nat × Nat)) (n : Nat) (w : World) (e : Ending) (w' : World) : Prop := ∃ b, e = .returned (.bool b) ∧ w = w' ∧ Hid (b = true → SmallTo ds n)

set_option maxHeartbeats 800000 in
theorem bytes22 (a1 a2 a3 a4 a7 : Option Addr) (n1 n2 n3 n4 n7 k1 k2 k3 k4 k7 : Nat) (v5 v6 v8 : Int) (ds : List (Option Addr × Nat × Nat)) (w : World)
    (h1 : n1 ≤ maxLen) (h2 : n2 ≤ maxLen) (h3 : n3 ≤ maxLen) (h4 : n4 ≤ maxLen) (h7 : n7 ≤ maxLen) (HD : Hid (n3 = ds.length)) (hD : DRow w a3 ds) (hM : ∀ d ∈ ds, d.2.1 ≤ maxLen) :
    Calls Try.prog 22 #[.slice a1 n1 k1, .slice a2 n2 k2, .slice a3 n3 k3, .slice a4 n4 k4, .int .i64 v5, .int .i64 v6, .slice a7 n7 k7, .int .i64 v8] w fun e w' => BytesPost ds n3 w e w' := by
  unfold maxLen at h1 h2 h3 h4 h7
  go_enter Try.func22, Try.ntmps22
  go_wp2_with fail
  · go_ret
    exact ⟨false, rfl, rfl, fun h => by cases h⟩
  · go_ret
    exact ⟨false, rfl, rfl, fun h => by cases h⟩
  · go_ret
    exact ⟨false, rfl, rfl, fun h => by cases h⟩
  · go_ret
    exact ⟨false, rfl, rfl, fun h => by cases h⟩
  · go_ret
    exact ⟨false, rfl, rfl, fun h => by cases h⟩
  go_loop [17, 18] (fun z i => ∃ (k t : Nat), k ≤ n3 ∧ i = .int .i64 k ∧ z = .int .i64 t ∧ t ≤ 1048576 ∧ SmallTo ds k) (fun _ i => n3 - (intOf i).toNat)
  case atStart => exact ⟨0, n1 + n2 + n3, Nat.zero_le _, rfl, by go_num, by omega, SmallTo.zero ds⟩
  case round =>
    obtain ⟨k, t, hk, rfl, rfl, ht, hS⟩ := hrel
    by_cases hlt : k < n3
    · obtain ⟨d, hd⟩ : ∃ d, ds[k]? = some d := ⟨ds[k]'(by have := HD.out; omega), by simp⟩
      have hm := hM d (List.mem_of_getElem? hd)
      unfold maxLen at hm
      have hst := hS.step hd
      obtain ⟨b, off, e, c⟩ := hD k d hd
      subst e
      obtain ⟨da, dn, dc⟩ := d
      have hlt' : (k : Int) < (n3 : Int) := by omega
      clear hd hD hM
      by_cases g1 : dn ≤ 1048576
      · have hnx := hst g1
        by_cases g2 : t + dn ≤ 1048576
        · clear hst
          go_wp2
          go_round
          case rel => exact ⟨k + 1, t + dn, by omega, by go_num, by go_num, g2, hnx⟩
          case measure => simp [intOf]; omega
        · clear hst
          go_wp2
          go_ret
          exact ⟨false, rfl, rfl, fun h => by cases h⟩
      · clear hst
        go_wp2
        go_ret
        exact ⟨false, rfl, rfl, fun h => by cases h⟩
    · have kn : k = n3 := by omega
      subst kn
      go_wp2
      all_goals
        go_ret
        first | exact ⟨false, rfl, rfl, fun h => by cases h⟩ | exact ⟨true, rfl, rfl, fun _ => hS⟩

set_option maxHeartbeats 800000 in
theorem bytes13 (a1 a2 a3 a4 a7 a11 : Option Addr) (n1 n2 n3 n4 n7 n11 k1 k2 k3 k4 k7 k11 : Nat) (v5 v6 v8 v9 v10 v12 : Int) (ds : List (Option Addr × Nat × Nat)) (w : World)
    (h1 : n1 ≤ maxLen) (h2 : n2 ≤ maxLen) (h3 : n3 ≤ maxLen) (h4 : n4 ≤ maxLen) (h7 : n7 ≤ maxLen) (h11 : n11 ≤ maxLen) (HD : Hid (n3 = ds.length)) (hD : DRow w a3 ds) (hM : ∀ d ∈ ds, d.2.1 ≤ maxLen) :
    Calls Try.prog 13 #[.slice a1 n1 k1, .slice a2 n2 k2, .slice a3 n3 k3, .slice a4 n4 k4, .int .i64 v5, .int .i64 v6, .slice a7 n7 k7, .int .i64 v8, .int .i64 v9, .int .i64 v10, .slice a11 n11 k11, .int .i64 v12] w fun e w' => BytesPost ds n3 w e w' := by
  unfold maxLen at h1 h2 h3 h4 h7 h11
  go_enter Try.func13, Try.ntmps13
  go_wp2_with fail
  · go_ret
    exact ⟨false, rfl, rfl, fun h => by cases h⟩
  · go_ret
    exact ⟨false, rfl, rfl, fun h => by cases h⟩
  · go_ret
    exact ⟨false, rfl, rfl, fun h => by cases h⟩
  · go_ret
    exact ⟨false, rfl, rfl, fun h => by cases h⟩
  · go_ret
    exact ⟨false, rfl, rfl, fun h => by cases h⟩
  go_loop [25, 26] (fun z i => ∃ (k t : Nat), k ≤ n3 ∧ i = .int .i64 k ∧ z = .int .i64 t ∧ t ≤ 1048576 ∧ SmallTo ds k) (fun _ i => n3 - (intOf i).toNat)
  case atStart => exact ⟨0, n1 + n2 + n3, Nat.zero_le _, rfl, by go_num, by omega, SmallTo.zero ds⟩
  case round =>
    obtain ⟨k, t, hk, rfl, rfl, ht, hS⟩ := hrel
    by_cases hlt : k < n3
    · obtain ⟨d, hd⟩ : ∃ d, ds[k]? = some d := ⟨ds[k]'(by have := HD.out; omega), by simp⟩
      have hm := hM d (List.mem_of_getElem? hd)
      unfold maxLen at hm
      have hst := hS.step hd
      obtain ⟨b, off, e, c⟩ := hD k d hd
      subst e
      obtain ⟨da, dn, dc⟩ := d
      have hlt' : (k : Int) < (n3 : Int) := by omega
      clear hd hD hM
      by_cases g1 : dn ≤ 1048576
      · have hnx := hst g1
        by_cases g2 : t + dn ≤ 1048576
        · clear hst
          go_wp2
          go_round
          case rel => exact ⟨k + 1, t + dn, by omega, by go_num, by go_num, g2, hnx⟩
          case measure => simp [intOf]; omega
        · clear hst
          go_wp2
          go_ret
          exact ⟨false, rfl, rfl, fun h => by cases h⟩
      · clear hst
        go_wp2
        go_ret
        exact ⟨false, rfl, rfl, fun h => by cases h⟩
    · have kn : k = n3 := by omega
      subst kn
      go_wp2
      all_goals
        go_ret
        first | exact ⟨false, rfl, rfl, fun h => by cases h⟩ | exact ⟨true, rfl, rfl, fun _ => hS⟩

set_option maxHeartbeats 800000 in
theorem bytes20 (a1 a2 a3 a4 a9 : Option Addr) (n1 n2 n3 n4 n9 k1 k2 k3 k4 k9 : Nat) (v5 v6 v7 v8 v10 : Int) (ds : List (Option Addr × Nat × Nat)) (w : World)
    (h1 : n1 ≤ maxLen) (h2 : n2 ≤ maxLen) (h3 : n3 ≤ maxLen) (h4 : n4 ≤ maxLen) (h9 : n9 ≤ maxLen) (HD : Hid (n3 = ds.length)) (hD : DRow w a3 ds) (hM : ∀ d ∈ ds, d.2.1 ≤ maxLen) :
    Calls Try.prog 20 #[.slice a1 n1 k1, .slice a2 n2 k2, .slice a3 n3 k3, .slice a4 n4 k4, .int .i64 v5, .int .i64 v6, .int .i64 v7, .int .i64 v8, .slice a9 n9 k9, .int .i64 v10] w fun e w' => BytesPost ds n3 w e w' := by
  unfold maxLen at h1 h2 h3 h4 h9
  go_enter Try.func20, Try.ntmps20
  go_wp2_with fail
  · go_ret
    exact ⟨false, rfl, rfl, fun h => by cases h⟩
  · go_ret
    exact ⟨false, rfl, rfl, fun h => by cases h⟩
  · go_ret
    exact ⟨false, rfl, rfl, fun h => by cases h⟩
  · go_ret
    exact ⟨false, rfl, rfl, fun h => by cases h⟩
  · go_ret
    exact ⟨false, rfl, rfl, fun h => by cases h⟩
  go_loop [21, 22] (fun z i => ∃ (k t : Nat), k ≤ n3 ∧ i = .int .i64 k ∧ z = .int .i64 t ∧ t ≤ 1048576 ∧ SmallTo ds k) (fun _ i => n3 - (intOf i).toNat)
  case atStart => exact ⟨0, n1 + n2 + n3, Nat.zero_le _, rfl, by go_num, by omega, SmallTo.zero ds⟩
  case round =>
    obtain ⟨k, t, hk, rfl, rfl, ht, hS⟩ := hrel
    by_cases hlt : k < n3
    · obtain ⟨d, hd⟩ : ∃ d, ds[k]? = some d := ⟨ds[k]'(by have := HD.out; omega), by simp⟩
      have hm := hM d (List.mem_of_getElem? hd)
      unfold maxLen at hm
      have hst := hS.step hd
      obtain ⟨b, off, e, c⟩ := hD k d hd
      subst e
      obtain ⟨da, dn, dc⟩ := d
      have hlt' : (k : Int) < (n3 : Int) := by omega
      clear hd hD hM
      by_cases g1 : dn ≤ 1048576
      · have hnx := hst g1
        by_cases g2 : t + dn ≤ 1048576
        · clear hst
          go_wp2
          go_round
          case rel => exact ⟨k + 1, t + dn, by omega, by go_num, by go_num, g2, hnx⟩
          case measure => simp [intOf]; omega
        · clear hst
          go_wp2
          go_ret
          exact ⟨false, rfl, rfl, fun h => by cases h⟩
      · clear hst
        go_wp2
        go_ret
        exact ⟨false, rfl, rfl, fun h => by cases h⟩
    · have kn : k = n3 := by omega
      subst kn
      go_wp2
      all_goals
        go_ret
        first | exact ⟨false, rfl, rfl, fun h => by cases h⟩ | exact ⟨true, rfl, rfl, fun _ => hS⟩

end Go.Proofs.Qxb6617269a
