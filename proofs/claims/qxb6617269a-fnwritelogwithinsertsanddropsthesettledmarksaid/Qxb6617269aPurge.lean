import Derived.Test.Qxb6617269aLog
import Derived.Deep.DeepCutAuto
namespace Go.Proofs.Qxb6617269a
open Go.RowKit

theorem Try.info58 : (Try.prog.info? 58).map (fun i => (i.zero, i.size, i.bytes)) = some (some (.agg #[.int .i64 0, .int .i64 0, .slice none 0 0, .int .i64 0]), 4, 48) := by kernel_rfl

/-- The state of the loop in purge: behind k entries m are kept; the rest of the log lies as it lay. -/
def PInv (L cur : List Ent) (k m : Nat) : Prop := cur.length = L.length ∧ cur.drop k = L.drop k ∧ purge L = cur.take m ++ purge (L.drop k)

theorem PInv.start (L : List Ent) : PInv L L 0 0 := ⟨rfl, rfl, by simp⟩

theorem PInv.at {L cur : List Ent} {k m : Nat} (h : PInv L cur k m) {e : Ent} (he : cur[k]? = some e) : L.drop k = e :: L.drop (k + 1) := by
  rw [← h.2.1]
  have hk : k < cur.length := (List.getElem?_eq_some_iff.1 he).1
  rw [List.drop_eq_getElem_cons hk]
  have e1 : cur[k] = e := (List.getElem?_eq_some_iff.1 he).2
  have e2 : cur.drop (k + 1) = L.drop (k + 1) := by
    have := congrArg (List.drop 1) h.2.1
    simpa [List.drop_drop, Nat.add_comm] using this
  rw [e1, e2]

/-- The entry is dropped. -/
theorem PInv.skip {L cur : List Ent} {k m : Nat} (h : PInv L cur k m) {e : Ent} (he : cur[k]? = some e) (hd : (e.bare && headIs e.site (L.drop (k + 1))) = true) : PInv L cur (k + 1) m := by
  have ha := h.at he
  refine ⟨h.1, ?_, ?_⟩
  · have := congrArg (List.drop 1) h.2.1
    simpa [List.drop_drop, Nat.add_comm] using this
  · rw [h.2.2, ha, purge, if_pos hd]

/-- The entry is kept. -/
theorem PInv.keep {L cur : List Ent} {k m : Nat} (h : PInv L cur k m) (hm : m ≤ k) {e : Ent} (he : cur[k]? = some e) (hd : (e.bare && headIs e.site (L.drop (k + 1))) = false) : PInv L (cur.set m e) (k + 1) (m + 1) := by
  have ha := h.at he
  have hk : k < cur.length := (List.getElem?_eq_some_iff.1 he).1
  refine ⟨by simpa using h.1, ?_, ?_⟩
  · have := congrArg (List.drop 1) h.2.1
    rw [List.drop_set_of_lt (by omega)]
    simpa [List.drop_drop, Nat.add_comm] using this
  · rw [h.2.2, ha, purge, if_neg (by simp [hd])]
    have e1 : (cur.set m e).take (m + 1) = cur.take m ++ [e] := by
      rw [List.take_succ_eq_append_getElem (by simp; omega)]
      simp [List.take_set_of_le]
    rw [e1]; simp

theorem PInv.head {L cur : List Ent} {k m : Nat} (h : PInv L cur k m) {f : Ent} (hf : cur[k + 1]? = some f) (s : Int) : headIs s (L.drop (k + 1)) = (f.site == s) := by
  have e2 : cur.drop (k + 1) = L.drop (k + 1) := by
    have := congrArg (List.drop 1) h.2.1
    simpa [List.drop_drop, Nat.add_comm] using this
  have hk : k + 1 < cur.length := (List.getElem?_eq_some_iff.1 hf).1
  have e1 : cur[k + 1] = f := (List.getElem?_eq_some_iff.1 hf).2
  rw [← e2, List.drop_eq_getElem_cons hk, e1, headIs]

theorem PInv.last {L cur : List Ent} {k m : Nat} (h : PInv L cur k m) (hk : cur.length ≤ k + 1) : L.drop (k + 1) = [] := List.drop_eq_nil_of_le (by have := h.1; omega)

theorem PInv.whole {L cur : List Ent} {k m : Nat} (h : PInv L cur k m) (hk : L.length ≤ k) : purge L = cur.take m := by
  have := h.2.2
  rw [List.drop_eq_nil_of_le hk] at this
  simpa [purge] using this

theorem flat_set {cur : List Ent} {m : Nat} {e : Ent} {sp : List Value} (hm : m < cur.length) : (flat cur ++ sp).take (m * 4) ++ e.cells ++ (flat cur ++ sp).drop (m * 4 + e.cells.length) = flat (cur.set m e) ++ sp := by
  have l1 := flat_length cur
  have hc : e.cells.length = 4 := rfl
  rw [List.take_append_of_le_length (by omega), List.drop_append_of_le_length (by omega)]
  rw [List.set_eq_take_append_cons_drop, if_pos hm, flat_append, flat_cons, flat_take, flat_drop]
  have e1 : m * 4 = 4 * m := by omega
  have e2 : m * 4 + e.cells.length = 4 * (m + 1) := by omega
  rw [e2, e1]
  simp

set_option maxRecDepth 100000 in
set_option maxHeartbeats 1000000 in
theorem purge_any (g n cap : Nat) (L : List Ent) (sp : List Value) (w : World) (hn : n ≤ 1048576) (HL : Hid (n = L.length)) (hcap : n ≤ cap) (hB : Blk w g (flat L ++ sp) 58) :
    Calls Try.prog 36 #[.slice (some ⟨g, 0, none⟩) n cap] w fun e w' => ∃ sp', e = .returned (.slice (some ⟨g, 0, none⟩) (purge L).length cap) ∧ Blk w' g (flat (purge L) ++ sp') 58 ∧ Below g w w' := by
  obtain ⟨i0, hi, hz0, hz1, hz2⟩ := info_parts Try.info58
  have hne := fun wx a n c => Lib.run_eql_slice_nil (P := Try.prog) wx 56 76 a n c 0 0 Try.underlying56
  go_enter Try.func36, Try.ntmps36
  go_wp2_with fail
  go_loopw [3, 10] (fun v i wr => ∃ (k m : Nat) (cur : List Ent) (sp : List Value), k ≤ n ∧ i = .int .i64 k ∧ m ≤ k ∧ v = .slice (some ⟨g, 0, none⟩) m cap ∧ Blk wr g (flat cur ++ sp) 58 ∧ PInv L cur k m ∧ Below g w wr) (fun _ i _ => n - (intOf i).toNat)
  case atStart => exact ⟨0, 0, L, sp, Nat.zero_le _, rfl, Nat.le_refl _, rfl, hB, PInv.start L, Below.refl _ _⟩
  case round =>
    obtain ⟨k, m, cur, sq, hk, rfl, hm, rfl, hBr, hP, hbr⟩ := hrel
    by_cases hlt : k < n
    · obtain ⟨e, he⟩ : ∃ e, cur[k]? = some e := ⟨cur[k]'(by have := hP.1; have := HL.out; omega), by simp⟩
      obtain ⟨c0, c1, c2, c3⟩ := flat_at (sp := sq) he
      rw [← hBr.cell, Nat.mul_comm] at c0 c1 c2 c3
      have hgr := hBr.lt
      have hlt' : (k : Int) < (n : Int) := by omega
      have hcl : cur.length = n := by rw [hP.1, ← HL.out]
      have hfl : (flat cur ++ sq).length = 4 * n + sq.length := by rw [List.length_append, flat_length, hcl]
      have hset := fun e => flat_set (cur := cur) (m := m) (e := e) (sp := sq) (by omega)
      obtain ⟨s, c, da, dn, dc, r⟩ := e
      have hkeep := hP.keep hm he
      have hskip := hP.skip he
      cases da with
      | some q =>
        have hnx := hkeep rfl
        clear hkeep hskip
        go_wp2
        go_quiet (fail)
        go_wp2_with (at_builtin; refine wpList_append_blk rfl _ _ 53 rfl 58 i0 Try.underlying53 hi g m cap (flat cur ++ sq) rfl ?hB _ 1 1 (Ent.cells ⟨s, c, some q, dn, dc, r⟩) rfl ?hn ?hc (cells_one _) ?b1 ?b2 ?_)
        case hB => exact (hBr.alloc _).alloc _
        case hn => rw [hz1]; rfl
        case hc => exact new_cells _ ⟨s, c, some q, dn, dc, r⟩ _ (by simp) 58
        case b1 => omega
        case b2 => rw [hz1, hfl]; show m * 4 + 4 ≤ _; omega
        intro w' hB' hU'
        have hbe : Below g w w' := hbr.trans ((below_box2 (by omega) _ _ _).trans (hU'.below (Nat.le_refl _)))
        clear hU'
        go_wp2
        go_roundw
        case rel => exact ⟨k + 1, m + 1, _, _, by omega, by go_num, by omega, rfl, hB', hnx, hbe⟩
        case measure => simp [intOf]; omega
      | none =>
        by_cases hk1 : k + 1 < n
        · have hk1' : (k : Int) + 1 < (n : Int) := by omega
          obtain ⟨f, hf⟩ : ∃ f, cur[k + 1]? = some f := ⟨cur[k + 1]'(by omega), by simp⟩
          have hhd := hP.head hf
          obtain ⟨d0, _, _, _⟩ := flat_at (sp := sq) hf
          rw [← hBr.cell, Nat.mul_comm] at d0
          by_cases hsame : f.site = s
          · have hnx := hskip (by rw [hhd]; simp [Ent.bare, hsame])
            have hsb : (f.site == s) = true := by simp [hsame]
            clear hkeep hskip hsame hhd
            generalize f.site = fs at *
            go_wp2
            go_quiet (fail)
            go_wp2
            go_roundw
            case rel => exact ⟨k + 1, m, _, _, by omega, by go_num, by omega, rfl, hBr.alloc _, hnx, hbr.trans (below_draws ((Below.refl _ _).alloc (by omega) _) _)⟩
            case measure => simp [intOf]; omega
          · have hnx := hkeep (by rw [hhd]; simp [Ent.bare, hsame])
            have hsb : (f.site == s) = false := by simp [hsame]
            clear hkeep hskip hsame hhd
            generalize f.site = fs at *
            go_wp2
            go_quiet (fail)
            go_wp2_with (at_builtin; refine wpList_append_blk rfl _ _ 53 rfl 58 i0 Try.underlying53 hi g m cap (flat cur ++ sq) rfl ?hB _ 1 1 (Ent.cells ⟨s, c, none, dn, dc, r⟩) rfl ?hn ?hc (cells_one _) ?b1 ?b2 ?_)
            case hB => exact (hBr.alloc _).alloc _
            case hn => rw [hz1]; rfl
            case hc => exact new_cells _ ⟨s, c, none, dn, dc, r⟩ _ (by simp) 58
            case b1 => omega
            case b2 => rw [hz1, hfl]; show m * 4 + 4 ≤ _; omega
            intro w' hB' hU'
            have hbe : Below g w w' := hbr.trans ((below_box2 (by omega) _ _ _).trans (hU'.below (Nat.le_refl _)))
            clear hU'
            go_wp2
            go_roundw
            case rel => exact ⟨k + 1, m + 1, _, _, by omega, by go_num, by omega, rfl, hB', hnx, hbe⟩
            case measure => simp [intOf]; omega
        · have hk1' : decide ((k : Int) + 1 < (n : Int)) = false := by simp; omega
          have hnx := hkeep (by rw [hP.last (by omega)]; simp [headIs])
          clear hkeep hskip
          go_wp2
          go_quiet (fail)
          go_wp2_with (at_builtin; refine wpList_append_blk rfl _ _ 53 rfl 58 i0 Try.underlying53 hi g m cap (flat cur ++ sq) rfl ?hB _ 1 1 (Ent.cells ⟨s, c, none, dn, dc, r⟩) rfl ?hn ?hc (cells_one _) ?b1 ?b2 ?_)
          case hB => exact (hBr.alloc _).alloc _
          case hn => rw [hz1]; rfl
          case hc => exact new_cells _ ⟨s, c, none, dn, dc, r⟩ _ (by simp) 58
          case b1 => omega
          case b2 => rw [hz1, hfl]; show m * 4 + 4 ≤ _; omega
          intro w' hB' hU'
          have hbe : Below g w w' := hbr.trans ((below_box2 (by omega) _ _ _).trans (hU'.below (Nat.le_refl _)))
          clear hU'
          go_wp2
          go_roundw
          case rel => exact ⟨k + 1, m + 1, _, _, by omega, by go_num, by omega, rfl, hB', hnx, hbe⟩
          case measure => simp [intOf]; omega
    · have hw := hP.whole (by have := HL.out; omega)
      have hwl : m = (purge L).length := by
        rw [hw, List.length_take]
        have h1 := hP.1
        have h2 := HL.out
        omega
      obtain ⟨sp', hsp⟩ : ∃ sp', flat cur ++ sq = flat (purge L) ++ sp' := ⟨flat (cur.drop m) ++ sq, by rw [hw, ← List.append_assoc, ← flat_append, List.take_append_drop]⟩
      have HW : Hid (m = (purge L).length) := hwl
      rw [hsp] at hBr
      have HB : Hid (Blk wr g (flat (purge L) ++ sp') 58) := hBr
      clear hw hwl hsp hBr
      go_wp2
      go_ret
      exact ⟨sp', by rw [← HW.out]; rfl, HB.out, hbr⟩

end Go.Proofs.Qxb6617269a
