/-
  Ahead of the law on raise: a copy of a slice of bools; the byte count.
-/
import Derived.Test.Qxb6617269aZr
import Derived.Test.Qxb6617269aPLaw
namespace Go.Proofs.Qxb6617269a
open Go.RowKit
set_option linter.unusedVariables false

theorem Try.info4 : (Try.prog.info? 4).map (fun i => (i.zero, i.size, i.bytes)) = some (some (.bool false), 1, 1) := by kernel_rfl
theorem Try.size4 : (Try.prog.info? 4).map (·.size) = some 1 := by kernel_rfl

theorem bls_oneCell (bs : List Bool) : ∀ v ∈ bs.map Value.bool, v.oneCell' = true := by
  intro v hv
  obtain ⟨b, _, rfl⟩ := List.mem_map.1 hv
  rfl

/-- 'copy(dst, src)' of bools, dst the whole of a block of its own, src of the same length. -/
theorem wpList_copy_bl {P : Program} {w : World} {ops : Array Oper} {rest : List Oper} {o : Oper} {a : Act} {Q : Exit → Act → World → Prop} (hgd : o.guard = none) (d s : Operand) (dT sT : TypeId)
    (ho : o.op = .call { callee := .builtin .copy, args := #[d, s], argTypes := #[dT, sT] }) (elem : TypeId) (hu : P.underlying dT = some (.slice elem)) (hsz : (P.info? elem).map (·.size) = some 1)
    (g n dCap sCap : Nat) (sp : Option Addr) (hd : a.eval d = .slice (some ⟨g, 0, none⟩) n dCap) (hs : a.eval s = .slice sp n sCap)
    (cur : List Value) (t : TypeId) (hg : Blk w g cur t) (hcur : cur.length = n) (bs : List Bool) (hx : bs.length = n) (hr : BIn w sp bs)
    (h : ∀ w', Blk w' g (bs.map Value.bool) t → w'.heap.size = w.heap.size → Below g w w' → wpList P ops Q rest (a.put o.dst (goInt n)) w') :
    wpList P ops Q (o :: rest) a w := by
  by_cases h0 : n = 0
  · subst h0
    refine wpList_copy_nothing hgd d s dT sT ho elem hu hsz _ sp 0 dCap 0 sCap hd hs (by simp) ?_
    have e1 : bs = [] := List.eq_nil_of_length_eq_zero hx
    have e2 : cur = [] := List.eq_nil_of_length_eq_zero hcur
    subst e1; subst e2
    exact h w hg rfl (Below.refl _ _)
  · obtain ⟨b, off, rfl, _⟩ := hr 0 bs[0] (by simp)
    refine wpList_copy_own hgd d s dT sT ho elem hu hsz g 0 n dCap ⟨b, off, none⟩ n sCap hd hs cur.toArray t hg (bs.map Value.bool) (by simp [hx]) ?_ (by simp; omega) (bls_oneCell bs) ?_
    · intro j v hv
      rw [List.getElem?_map, Option.map_eq_some_iff] at hv
      obtain ⟨bj, hbj, rfl⟩ := hv
      obtain ⟨b', off', e, hc⟩ := hr j bj hbj
      simp at e
      obtain ⟨rfl, rfl⟩ := e
      rw [Go.WideShapes.add_plain]
      exact hc
    · have e1 : (cur.toArray.toList.take 0 ++ (bs.map Value.bool ++ cur.toArray.toList.drop (0 + (bs.map Value.bool).length))).toArray = (bs.map Value.bool).toArray := by
        have : cur.drop (0 + (bs.map Value.bool).length) = [] := List.drop_eq_nil_of_le (by simp; omega)
        simp only [List.take_zero, List.nil_append, this, List.append_nil]
      rw [e1]
      have e2 : (goInt (bs.map Value.bool).length) = goInt n := by simp [hx]
      rw [e2]
      refine h _ (setRow_heap w g _ _ t _ hg) (by simp [World.setRow]) (below_setRow (Below.refl _ _) (Nat.le_refl _) _)

theorem BIn.of_blk {w : World} {g : Nat} {bs : List Bool} {e : TypeId} (h : Blk w g (bs.map Value.bool) e) : BIn w (some ⟨g, 0, none⟩) bs := by
  intro j b hj
  exact ⟨g, 0, rfl, by rw [Nat.zero_add, h.cell, List.getElem?_map, hj]; rfl⟩

theorem GIn.of_row {w : World} {a : Option Addr} {gs : List Int} (h : Row .i64 w a gs) : GIn w a gs := by
  intro j g hj
  obtain ⟨hlt, e⟩ := List.getElem?_eq_some_iff.1 hj
  obtain ⟨b, off, h1, h2, _⟩ := h j hlt
  exact ⟨b, off, h1, by rw [h2]; simp [List.getD, hj]⟩

def SmallT (Ts : List (List (Int × Int))) (M k : Nat) : Prop := ∀ j T, j < k → Ts[j]? = some T → T.length ≤ M

theorem SmallT.zero (Ts : List (List (Int × Int))) (M : Nat) : SmallT Ts M 0 := fun j d h => by omega
theorem SmallT.step {Ts : List (List (Int × Int))} {M k : Nat} {T : List (Int × Int)} (h : SmallT Ts M k) (hd : Ts[k]? = some T) (hs : T.length ≤ M) : SmallT Ts M (k + 1) := by
  intro j d' hj hd'
  by_cases e : j = k
  · subst e; rw [hd] at hd'; cases hd'; exact hs
  · exact h j d' (by omega) hd'

def BytesT (Ts : List (List (Int × Int))) (n : Nat) (w : World) (e : Ending) (w' : World) : Prop := ∃ b, e = .returned (.bool b) ∧ w = w' ∧ Hid (b = true → SmallT Ts 1048576 n)

set_option maxHeartbeats 800000 in
theorem bytes24 (a0 a3 a4 : Option Addr) (n0 n3 n4 k0 k3 k4 : Nat) (v1 v2 v5 v6 v7 : Int) (Ts : List (List (Int × Int))) (w : World)
    (h0 : n0 ≤ maxLen) (h3 : n3 ≤ maxLen) (h4 : n4 ≤ maxLen) (HD : Hid (n0 = Ts.length)) (hD : In w a0 Ts) (hM : ∀ T ∈ Ts, T.length ≤ maxLen) :
    Calls Try.prog 24 #[.slice a0 n0 k0, .int .i64 v1, .int .i64 v2, .slice a3 n3 k3, .slice a4 n4 k4, .int .i64 v5, .int .i64 v6, .int .i64 v7] w fun e w' => BytesT Ts n0 w e w' := by
  unfold maxLen at h0 h3 h4
  go_enter Try.func24, Try.ntmps24
  go_wp2_with fail
  · go_ret
    exact ⟨false, rfl, rfl, fun h => by cases h⟩
  go_loop [17, 18] (fun z i => ∃ (k t : Nat), k ≤ n0 ∧ i = .int .i64 k ∧ z = .int .i64 t ∧ t ≤ 1048576 ∧ SmallT Ts 1048576 k) (fun _ i => n0 - (intOf i).toNat)
  case atStart => exact ⟨0, n0, Nat.zero_le _, rfl, by go_num, by omega, SmallT.zero Ts _⟩
  case round =>
    obtain ⟨k, t, hk, rfl, rfl, ht, hS⟩ := hrel
    by_cases hlt : k < n0
    · obtain ⟨T, hT⟩ : ∃ T, Ts[k]? = some T := ⟨Ts[k]'(by have := HD.out; omega), by simp⟩
      have hm := hM T (List.mem_of_getElem? hT)
      unfold maxLen at hm
      have hst := hS.step hT
      obtain ⟨b, off, x, n, c, e, cc, hn, _, _⟩ := hD k T hT
      subst e
      rw [← hn.out] at hm hst
      have hlt' : (k : Int) < (n0 : Int) := by omega
      clear hT hD hM hn
      by_cases g1 : n ≤ 1048576
      · have hnx := hst g1
        by_cases g2 : t + n ≤ 1048576
        · clear hst
          go_wp2
          go_round
          case rel => exact ⟨k + 1, t + n, by omega, by go_num, by go_num, g2, hnx⟩
          case measure => simp [intOf]; omega
        · clear hst
          go_wp2
          go_ret
          exact ⟨false, rfl, rfl, fun h => by cases h⟩
      · clear hst
        go_wp2
        go_ret
        exact ⟨false, rfl, rfl, fun h => by cases h⟩
    · have kn : k = n0 := by omega
      subst kn
      go_wp2
      all_goals
        go_ret
        first | exact ⟨false, rfl, rfl, fun h => by cases h⟩ | exact ⟨true, rfl, rfl, fun _ => hS⟩

end Go.Proofs.Qxb6617269a
