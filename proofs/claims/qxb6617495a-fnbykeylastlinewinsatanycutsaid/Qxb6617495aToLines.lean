/-
  zzToLines: the lines from lo up to hi, as config's own lines in new memory.
-/
import Derived.Test.Qxb6617495aLines
import Derived.Deep.RegionHeld3
namespace Go.Proofs.Qxb6617495a
open Go.RowKit

/-- A slice of lines that came in: line j's four cells. -/
def LRow (w : World) (a : Option Addr) (L : List Ln) : Prop :=
  ∀ j l, L[j]? = some l → ∃ b off, a = some ⟨b, off, none⟩ ∧ w.cell? ⟨b, off + j * 4, none⟩ = some (.string l.t) ∧ w.cell? ⟨b, off + j * 4 + 1, none⟩ = some (.string l.e) ∧
    w.cell? ⟨b, off + j * 4 + 2, none⟩ = some (.string l.k) ∧ w.cell? ⟨b, off + j * 4 + 3, none⟩ = some (.bool l.d)

theorem LRow.keep {w w' : World} {a : Option Addr} {L : List Ln} (h : LRow w a L) (hb : Below w.heap.size w w') : LRow w' a L := by
  intro j l hl
  obtain ⟨b, off, e, c0, c1, c2, c3⟩ := h j l hl
  exact ⟨b, off, e, cell_keep hb c0, cell_keep hb c1, cell_keep hb c2, cell_keep hb c3⟩

theorem makeLine_any (t e k : ByteArray) (d : Bool) (w : World) :
    Calls Try.prog 7 #[.string t, .string e, .string k, .bool d] w fun x w' => x = .returned (.agg #[.string t, .string e, .string k, .bool d]) ∧ w.alloc (.cells #[.string t, .string e, .string k, .bool d] 34) = w' := by
  go_enter Try.func7, Try.ntmps7
  go_wp2
  exact bodyPost_ret (v := .agg #[.string t, .string e, .string k, .bool d]) (by simp [results, Try.results7, go_sem]) rfl ⟨rfl, rfl⟩

/-- 'append(out, x)' within the capacity of a block of its own, as one step of a region that draws its order. -/
theorem step_append_blk {P : Program} {ops : Array Oper} {o : Oper} {a : Act} {w : World} {K : Act → World → Prop} {Q : Exit → Act → World → Prop} {E : Prop}
    (hgd : o.guard = none) (s x : Operand) (t : TypeId) (hop : o.op = Op.call { callee := Callee.builtin Builtin.append, args := #[s, x], argTypes := #[t, t] })
    (e : TypeId) (i : TypeInfo) (h1 : P.underlying t = some (.slice e)) (h2 : P.info? e = some i)
    (g k cap : Nat) (cur : List Value) (hs : a.eval s = .slice (some ⟨g, 0, none⟩) k cap) (hB : Blk w g cur e) (ad : Addr) (m c : Nat) (news : List Value) (hx : a.eval x = .slice (some ad) m c) (hn : news.length = m * i.size)
    (hc : ∀ j u, news[j]? = some u → w.cell? (ad.add j) = some u) (h1c : ∀ u ∈ news, u.oneCell' = true) (b1 : k + m ≤ cap) (b2 : k * i.size + news.length ≤ cur.length)
    (hK : ∀ w', Blk w' g (cur.take (k * i.size) ++ news ++ cur.drop (k * i.size + news.length)) e → Upd g w w' → K (a.put o.dst (.slice (some ⟨g, 0, none⟩) (k + m) cap)) w') :
    if Region.wanted o (yielded ops a.tmps) = true then Oper.wp P o a w K Q else E := by
  have hw : Region.wanted o (yielded ops a.tmps) = true := by simp [Region.wanted, hgd]
  rw [if_pos hw]
  have hrun := run_append_room (P := P) w t o.type e i h1 h2 g k cap cur.toArray hB ad m c news hn hc h1c b1 (by simpa using b2)
  unfold Oper.wp
  simp [execOp, hop, resolve, invoke, builtin, hs, hx, hrun, Result.andThen]
  have h := hK _ (show Blk (w.setRow g (cur.take (k * i.size) ++ news ++ cur.drop (k * i.size + news.length)).toArray) g _ e from setRow_heap w g cur.toArray _ e _ hB) ⟨rfl, rfl, rfl, by simp [World.setRow], fun j hj => setRow_other w g j _ (by omega)⟩
  rw [List.append_assoc] at h
  exact h

/-- What zzToLines hands back: the lines, in a block of its own. -/
def LinesPost (M : List Ln) (w : World) (x : Ending) (w' : World) : Prop := ∃ g m sp, x = .returned (.slice (some ⟨g, 0, none⟩) m m) ∧ Hid (m = M.length) ∧ m ≤ 65536 ∧ Blk w' g (flat M ++ sp) 34 ∧ w.heap.size ≤ g ∧ Below w.heap.size w w'

theorem upd_cell {g : Nat} {w w' : World} (h : Upd g w w') {a : Addr} (hne : a.block ≠ g) : w'.cell? a = w.cell? a := World.cell?_of_block (h.block a.block hne)

set_option maxRecDepth 100000 in
set_option maxHeartbeats 1000000 in
theorem toLines_any (a : Option Addr) (n c lo hi : Nat) (L : List Ln) (w : World) (hn : n ≤ 65536) (HL : Hid (n = L.length)) (h1 : lo ≤ hi) (h2 : hi ≤ n) (hR : LRow w a L) :
    Calls Try.prog 5 #[.slice a n c, .int .i64 lo, .int .i64 hi] w fun x w' => LinesPost ((L.drop lo).take (hi - lo)) w x w' := by
  obtain ⟨i0, hi0, hz0, hz1, hz2⟩ := info_parts Try.info34
  go_enter Try.func5, Try.ntmps5
  go_upto_region 2 with (first | (at_make; refine wpList_make_blk rfl _ _ 26 rfl 34 i0 _ Try.underlying26 hi0 hz0 0 (hi - lo) rfl (by show Value.int .i64 _ = Value.int .i64 _; congr 1; omega) (Nat.zero_le _) (by rw [hz2]; omega) (by unfold maxLen; omega) ?_; intro w1 hB1 hs1 hb1))
  have hlen : (madeCells (Value.agg #[.string ByteArray.empty, .string ByteArray.empty, .string ByteArray.empty, .bool false]).cells ((hi - lo) * i0.size)).toList.length = 4 * (hi - lo) := by rw [size_made, hz1]; omega
  generalize (madeCells (Value.agg #[.string ByteArray.empty, .string ByteArray.empty, .string ByteArray.empty, .bool false]).cells ((hi - lo) * i0.size)).toList = zs at hlen hB1
  obtain ⟨m, hm⟩ : ∃ m, m = hi - lo := ⟨_, rfl⟩
  rw [← hm] at hlen ⊢
  have HM : Hid (m = hi - lo) := hm
  have hmlo : lo + m = hi := by omega
  have hmn : m ≤ 65536 := by omega
  clear hm
  have HML : Hid (lo + m = hi) := hmlo
  have hle : lo + m ≤ hi := by omega
  have hge : hi ≤ lo + m := by omega
  clear hmlo
  go_wp2_with fail
  go_loopw [7, 8] (fun v i wr => ∃ (k : Nat) (sp : List Value), k ≤ m ∧ i = .int .i64 ((lo : Int) + (k : Int)) ∧ v = .slice (some ⟨w.heap.size, 0, none⟩) k m ∧ Blk wr w.heap.size (flat ((L.drop lo).take k) ++ sp) 34 ∧ Hid ((flat ((L.drop lo).take k) ++ sp).length = 4 * m) ∧ Below w.heap.size w wr) (fun _ i _ => hi - (intOf i).toNat)
  case atStart => exact ⟨0, zs, Nat.zero_le _, by simp, rfl, by simpa [flat] using hB1, by simpa [flat, Hid] using hlen, hb1⟩
  case round =>
    obtain ⟨k, sp, hk, rfl, rfl, hBr, hcl, hbw⟩ := hrel
    have hgr := hBr.lt
    by_cases hlt : k < m
    · obtain ⟨f, hf⟩ : ∃ f, L[lo + k]? = some f := ⟨L[lo + k]'(by have := HL.out; omega), by simp⟩
      obtain ⟨b, off, e, c0, c1, c2, c3⟩ := hR (lo + k) f hf
      have d0 := cell_keep hbw c0
      have d1 := cell_keep hbw c1
      have d2 := cell_keep hbw c2
      have d3 := cell_keep hbw c3
      have hbb := cell_lt c0
      subst e
      have hbb' : b < w.heap.size := hbb
      have hbr : b < wr.heap.size := by omega
      have hlt' : (lo : Int) + (k : Int) < (hi : Int) := by omega
      have hlt2 : (lo : Int) + (k : Int) < (n : Int) := by omega
      have hlt0 : (0 : Int) ≤ (lo : Int) + (k : Int) := by omega
      have hst : (L.drop lo).take (k + 1) = (L.drop lo).take k ++ [f] := take_snoc (by rw [List.getElem?_drop]; exact hf)
      have hkl : ((L.drop lo).take k).length = k := by rw [List.length_take, List.length_drop, ← HL.out]; omega
      have hpush := flat_push (m := k) hkl (e := f) (sp := sp)
      have hpl := push_len (e := f) hkl hcl.out (by omega)
      rw [← hst] at hpush hpl
      have HP : Hid ((flat ((L.drop lo).take k) ++ sp).take (k * 4) ++ (f.cells ++ (flat ((L.drop lo).take k) ++ sp).drop (k * 4 + f.cells.length)) = flat ((L.drop lo).take (k + 1)) ++ sp.drop 4) := hpush
      have HPL : Hid ((flat ((L.drop lo).take (k + 1)) ++ List.drop 4 sp).length = 4 * m) := hpl
      have h4 : k * 4 + 4 ≤ (flat ((L.drop lo).take k) ++ sp).length := by rw [hcl.out]; omega
      clear hpush hpl hst hkl hf c0 c1 c2 c3
      have en : ((lo : Int) + (k : Int)).toNat = lo + k := by omega
      have hnb : b ≠ w.heap.size := by omega
      go_wp2
      go_region_held3 (fun w' => w'.cell? ⟨b, off + (lo + k) * 4, none⟩ = some (.string f.t) ∧ w'.cell? ⟨b, off + (lo + k) * 4 + 1, none⟩ = some (.string f.e) ∧ w'.cell? ⟨b, off + (lo + k) * 4 + 2, none⟩ = some (.string f.k) ∧ w'.cell? ⟨b, off + (lo + k) * 4 + 3, none⟩ = some (.bool f.d))
        (first | go_keep | (go_split_ands; refine ⟨?_, ?_, ?_, ?_⟩ <;> (rw [upd_cell hU2 hnb]; simp [*])))
        (first | (go_at_call 7; refine (makeLine_any _ _ _ _ _).mono ?_; rintro x w' ⟨rfl, rfl⟩) | (refine step_append_blk (by rfl) (.tmp 19) (.tmp 41) 26 (by rfl) 34 i0 Try.underlying26 hi0 w.heap.size k m (flat ((L.drop lo).take k) ++ sp) (by rfl) (by exact (hBr.alloc _).alloc _) _ 1 1 f.cells (by rfl) (by rw [hz1]; rfl) (by exact new_cells _ f _ (by first | rfl | simp) 34) (cells_one f) (by omega) (by rw [hz1]; exact h4) ?_; intro w2 hB2 hU2))
      have hB3 : Blk w2 w.heap.size (flat ((L.drop lo).take (k + 1)) ++ sp.drop 4) 34 := by
        rw [hz1, List.append_assoc, HP.out] at hB2
        exact hB2
      have hbe : Below w.heap.size w w2 := hbw.trans (⟨hU2.os, hU2.tape, hU2.output, by have := hU2.size; simp at this; omega, fun j hj => by
        have e1 := hU2.block j (by omega)
        rw [e1]
        exact (below_alloc2 (w := wr) (g := w.heap.size) (by omega) _ _).block j hj⟩)
      clear hB2 hU2 HP
      go_wp2
      go_roundw
      case rel => exact ⟨k + 1, _, by omega, by go_num, rfl, hB3, HPL, hbe⟩
      case measure => simp [intOf]; omega
    · have kn : k = m := by omega
      subst kn
      have HML' : Hid (k = ((L.drop lo).take (hi - lo)).length) := by show _ = _; rw [List.length_take, List.length_drop, ← HL.out, ← HM.out]; omega
      rw [HM.out] at hBr
      have HB : Hid (Blk wr w.heap.size (flat ((L.drop lo).take (hi - lo)) ++ sp) 34) := hBr
      clear hBr hcl
      have hlt' : ¬ (lo : Int) + (k : Int) < (hi : Int) := by omega
      go_wp2
      go_ret
      exact ⟨w.heap.size, k, sp, rfl, HML', hmn, HB.out, Nat.le_refl _, hbw⟩

end Go.Proofs.Qxb6617495a
