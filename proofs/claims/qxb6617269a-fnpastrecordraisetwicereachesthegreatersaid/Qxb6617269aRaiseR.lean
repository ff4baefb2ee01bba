/-
  raise (function 34) where a source has a column of its own.
-/
import Derived.Test.Qxb6617269aRaise
import Derived.Deep.RegionHeld3
namespace Go.Proofs.Qxb6617269a
open Go.RowKit
set_option linter.unusedVariables false
set_option linter.unusedSimpArgs false

set_option maxHeartbeats 2000000 in
theorem raise_read (R A nr F ns : Nat) (ops cl : Int) (q : Nat) (gq : Int) (vs : List Value) (i : Nat) (x : Option Addr) (n c : Nat) (m : Int) (S : List (Int × Int)) (rs : List (Bool × Int)) (w : World) (hR : Blk w R (recCells A nr F ns ops cl) 66) (hA : Blk w A vs 68) (hF : Blk w F (flatR rs) 72) (hi : i < nr) (hv : vs[i]? = some (.slice x n c)) (hn : n ≤ maxLen) (HL : Hid (n = S.length)) (hS : w.ownsRow 0 70 2 (.slice x n c) n (flatS S)) (hm : topOf S < m) (hns : ns ≤ 65536) (hq : q < ns) (hcl' : ¬ cl = 0) (HQ0 : Hid ((i : Int).tdiv cl = (q : Int))) (hsq : rs[q]? = some (true, gq)) (nRA : R ≠ A) (nRF : R ≠ F) (nAF : A ≠ F) (hvR : (Value.slice x n c).ownBlock ≠ some R) (hvA : (Value.slice x n c).ownBlock ≠ some A) (hvF : (Value.slice x n c).ownBlock ≠ some F) (hn2 : n ≤ 65536) (hi2 : i ≤ 65536) :
    Calls Try.prog 34 #[.pointer (some ⟨R, 0, none⟩), .int .i64 i, .int .i64 m] w fun e w' => RaisePost R A F i (recCells A nr F ns ops cl) vs (.slice x n c) (S ++ [(m, ops)]) (rs.set q (true, wrap64 (gq + 1))) w e w' := by
  obtain ⟨i0, hi0, hz0, hz1, hz2⟩ := info_parts Try.info70
  have hSR := SRow.of_own hS
  go_enter Try.func34, Try.ntmps34
  go_wp2_with fail
  refine (top37_any R A nr F ns ops cl vs i x n c S w hR hA hi hv hn HL hSR).mono ?_
  rintro e w' ⟨rfl, rfl⟩
  generalize topOf S = t at hm
  have c0 : w'.cell? ⟨R, 0, none⟩ = some (.slice (some ⟨A, 0, none⟩) nr nr) := by rw [hR.cell]; rfl
  have c1 : w'.cell? ⟨R, 1, none⟩ = some (.int .i64 ops) := by rw [hR.cell]; rfl
  have c4 : w'.cell? ⟨R, 4, none⟩ = some (.int .i64 cl) := by rw [hR.cell]; rfl
  have c5 : w'.cell? ⟨R, 5, none⟩ = some (.slice (some ⟨F, 0, none⟩) ns ns) := by rw [hR.cell]; rfl
  have hRl := hR.lt
  have hAl := hA.lt
  have hFl := hF.lt
  have hc1 : w'.grownBy (w'.alloc (Obj.cells #[Value.int IntKind.i64 m, Value.int IntKind.i64 ops] 70)) none := World.grownBy_alloc _ _ _
  have hq' : (q : Int) < (ns : Int) := Int.ofNat_lt.2 hq
  obtain ⟨f0, f3⟩ := flatR_at hsq
  have e0 : w'.cell? ⟨F, q * 6, none⟩ = some (.bool true) := by rw [hF.cell]; exact f0
  have e3 : w'.cell? ⟨F, q * 6 + 3, none⟩ = some (.int .i64 gq) := by rw [hF.cell]; exact f3
  have hfz : w'.frozen? ⟨F, q * 6 + 3, none⟩ = false := hF.frozen _
  clear f0 f3
  have HS : Hid (w'.ownsRow 0 70 2 (.slice x n c) n (flatS S)) := hS
  clear hS
  go_wp2_with fail
  have hquo : (i : Int).tdiv cl = (q : Int) := HQ0.out
  obtain ⟨z, hy1, hy2⟩ : ∃ z : Int, (i : Int).tdiv cl = z ∧ wrap64 z = (q : Int) := ⟨_, rfl, by rw [hquo]; exact wrap_small hns hq⟩
  clear hquo HQ0
  go_region
  clear hy1 hy2
  go_wp2_with fail
  obtain ⟨wa, HWA⟩ : ∃ wa, wa = (w'.setCell ⟨F, q * 6 + 3, none⟩ (.int .i64 (wrap64 (gq + 1)))) := ⟨_, rfl⟩
  rw [← HWA]
  obtain ⟨wr, HWR⟩ : ∃ wr, wr = (wa.alloc (Obj.cells #[Value.int IntKind.i64 m, Value.int IntKind.i64 ops] 70)).drew := ⟨_, rfl⟩
  rw [← HWR]
  have hga : w'.grownBy wa (some F) := by rw [HWA]; exact grown_setCell _ _ _ _
  have hsa : wa.heap.size = w'.heap.size := by rw [HWA]; simp [World.setCell]
  have hgb := World.grownBy_alloc wa (Obj.cells #[Value.int IntKind.i64 m, Value.int IntKind.i64 ops] 70) none
  have hgr0 : w'.grownBy wr (some F) := by rw [HWR]; exact ⟨hga.os, hga.tape, hga.output, Nat.le_trans hga.size hgb.size, fun b hb hne => (hgb.block b (by omega) (by simp)).trans (hga.block b hb hne)⟩
  have hWF : w'.heap.size ≠ F := by omega
  have hwsz : w'.heap.size + 1 ≤ wr.heap.size := by rw [HWR]; simp; omega
  have hFr : Blk wr F (flatR (rs.set q (true, wrap64 (gq + 1)))) 72 := by
    have h1 := hF.set (q * 6 + 3) (.int .i64 (wrap64 (gq + 1)))
    rw [flatR_set _ hsq, ← HWA] at h1
    rw [HWR]
    exact (hgb.block F (by omega) (by simp)).trans h1
  have hnb : wr.heap[w'.heap.size]? = some (Obj.cells #[Value.int IntKind.i64 m, Value.int IntKind.i64 ops] 70) := by rw [HWR, ← hsa]; exact heap_alloc_new _ _
  have dm : wr.cell? ⟨w'.heap.size, 0, none⟩ = some (.int .i64 m) := by simp [World.cell?, hnb]
  have dp : wr.cell? ⟨w'.heap.size, 1, none⟩ = some (.int .i64 ops) := by simp [World.cell?, hnb]
  have hgw : ∀ {b : Addr} {u : Value}, w'.cell? b = some u → b.block ≠ F → wr.cell? b = some u := fun h hne => hgr0.cell h (by simpa using hne)
  clear hga hgb hsa hnb HWR HWA
  have d0 := hgw c0 nRF
  have dA : wr.cell? ⟨A, i, none⟩ = some (.slice x n c) := hgw (by rw [hA.cell]; exact hv) nAF
  have hszr : w'.heap.size < wr.heap.size := by have := hwsz; omega
  have hvW : (Value.slice x n c).ownBlock ≠ some w'.heap.size := by
    intro e
    have := (World.ownsRow.lt HS.out _ e).2
    omega
  have hown : wr.ownsRow 0 70 2 (.slice x n c) n (flatS S) := HS.out.kept hgr0 (.inr hvF)
  have hi' : (i : Int) < (nr : Int) := by omega
  have hfzA : wr.frozen? ⟨A, i, none⟩ = false := by
    have : Blk wr A vs 68 := (hgr0.block A hAl (by simpa using nAF)).trans hA
    exact this.frozen _
  have hfzA2 : (wr.alloc (Obj.cells #[Value.int IntKind.i64 m, Value.int IntKind.i64 ops] 70)).frozen? ⟨A, i, none⟩ = false := (World.frozen?_of_block ((World.grownBy_alloc wr _ none).block A (by omega) (by simp))).trans hfzA
  have hcA1 := World.grownBy.cell (World.grownBy_alloc wr (Obj.cells #[Value.int IntKind.i64 m, Value.int IntKind.i64 ops] 70) none) dA (by simp)
  have hcR1 := World.grownBy.cell (World.grownBy_alloc wr (Obj.cells #[Value.int IntKind.i64 m, Value.int IntKind.i64 ops] 70) none) d0 (by simp)
  have hdm1 := World.grownBy.cell (World.grownBy_alloc wr (Obj.cells #[Value.int IntKind.i64 m, Value.int IntKind.i64 ops] 70) none) dm (by simp)
  have hdp1 := World.grownBy.cell (World.grownBy_alloc wr (Obj.cells #[Value.int IntKind.i64 m, Value.int IntKind.i64 ops] 70) none) dp (by simp)
  have HN : Hid (∀ (j : Nat) (u : Value), ([.int .i64 m, .int .i64 ops] : List Value)[j]? = some u → (wr.alloc (Obj.cells #[Value.int IntKind.i64 m, Value.int IntKind.i64 ops] 70)).cell? ((⟨wr.heap.size, 0, none⟩ : Addr).add j) = some u) := World.news_of_block (cs := #[Value.int IntKind.i64 m, Value.int IntKind.i64 ops]) (heap_alloc_new wr _)
  have Hvlt : Hid (∀ b, (Value.slice x n c).ownBlock = some b → b < w'.heap.size) := fun b e => (World.ownsRow.lt HS.out b e).2
  have Hown : Hid (wr.ownsRow 0 70 2 (.slice x n c) n (flatS S)) := hown
  have HQ : Hid (∀ (tmps : Array Value) (g cap : Nat) (w2 : World), w2.ownsRow 0 70 2 (.slice (some ⟨g, 0, none⟩) (n + 1) cap) (n + 1) (flatS S ++ [.int .i64 m, .int .i64 ops]) → (wr.alloc (Obj.cells #[Value.int IntKind.i64 m, Value.int IntKind.i64 ops] 70)).drew.grownBy w2 (Value.slice x n c).ownBlock → ((Value.slice x n c).ownBlock = some g ∨ g = (wr.alloc (Obj.cells #[Value.int IntKind.i64 m, Value.int IntKind.i64 ops] 70)).drew.heap.size) → RaisePost R A F i (recCells A nr F ns ops cl) vs (Value.slice x n c) (S ++ [(m, ops)]) (rs.set q (true, wrap64 (gq + 1))) w' (.returned (.tuple #[])) (w2.setCell ⟨A, i, none⟩ (.slice (some ⟨g, 0, none⟩) (n + 1) cap))) := by
    intro tmps g cap w2 h1 h2 h3
    refine raise_end (n := n) (k := n + 1) hgr0 hR hA hFr nRA nRF nAF hvR hvA hvF Hvlt.out (Obj.cells #[Value.int IntKind.i64 m, Value.int IntKind.i64 ops] 70) ?_ (by rw [List.length_append, ← HL.out]; rfl) h2 h3 _
    rw [flatS_append]; exact h1
  have nWA : w'.heap.size ≠ A := by omega
  clear hown hF hFr hR hA hgr0 hc1 c0 c1 c4 c5 e0 e3 hfz HL HS hSR hgw Hvlt hfzA hvF hFl hns hWF hv hn nRF nAF hi hm hsq hq hq' hcl' hwsz hi2
  refine wp_region_noPanic ?_
  refine wp_region_held_drew (S := fun w2 => w2.cell? ⟨R, 0, none⟩ = some (.slice (some ⟨A, 0, none⟩) nr nr) ∧ w2.cell? ⟨w'.heap.size, 0, none⟩ = some (.int .i64 m) ∧ w2.cell? ⟨w'.heap.size, 1, none⟩ = some (.int .i64 ops)) (by kernel_rfl) (by (try dsimp only); go_keep) (fun hHeld => ?_)
  refine wpAnyH_take (i := 0) (oi := _) (v := ?_) at0 (by kernel_rfl) (by kernel_rfl) (by kernel_rfl) (fun _ _ _ h => h) (Or.inl ⟨by rfl, ?_⟩) (by assumption) ?_
  rotate_left
  · intro w hSw; (try dsimp only at hSw); go_simp; (try with_reducible rfl)
  (try simp only [Act.put, List.setIfInBounds_toArray, List.set_cons_zero, List.set_cons_succ])
  refine wpAnyH_take (i := 1) (oi := _) (v := ?_) at1 (by kernel_rfl) (by kernel_rfl) (by kernel_rfl) (fun _ _ _ h => h) (Or.inl ⟨by rfl, ?_⟩) (by assumption) ?_
  rotate_left
  · intro w hSw; (try dsimp only at hSw); go_simp; (try with_reducible rfl)
  (try simp only [Act.put, List.setIfInBounds_toArray, List.set_cons_zero, List.set_cons_succ])
  refine wpAnyH_take (i := 2) (oi := _) (v := ?_) at2 (by kernel_rfl) (by kernel_rfl) (by kernel_rfl) (fun _ _ _ h => h) (Or.inl ⟨by rfl, ?_⟩) (by assumption) ?_
  rotate_left
  · intro w hSw; (try dsimp only at hSw); go_simp; (try with_reducible rfl)
  (try simp only [Act.put, List.setIfInBounds_toArray, List.set_cons_zero, List.set_cons_succ])
  refine wpAnyH_take (i := 3) (oi := _) (v := ?_) at3 (by kernel_rfl) (by kernel_rfl) (by kernel_rfl) (fun _ _ _ h => h) (Or.inl ⟨by rfl, ?_⟩) (by assumption) ?_
  rotate_left
  · intro w hSw; (try dsimp only at hSw); go_simp; (try with_reducible rfl)
  (try simp only [Act.put, List.setIfInBounds_toArray, List.set_cons_zero, List.set_cons_succ])
  refine wpAnyH_take (i := 4) (oi := _) (v := ?_) at4 (by kernel_rfl) (by kernel_rfl) (by kernel_rfl) (fun _ _ _ h => h) (Or.inl ⟨by rfl, ?_⟩) (by assumption) ?_
  rotate_left
  · intro w hSw; (try dsimp only at hSw); go_simp; (try with_reducible rfl)
  (try simp only [Act.put, List.setIfInBounds_toArray, List.set_cons_zero, List.set_cons_succ])
  refine wpAnyH_take (i := 5) (oi := _) (v := ?_) at5 (by kernel_rfl) (by kernel_rfl) (by kernel_rfl) (fun _ _ _ h => h) (Or.inl ⟨by rfl, ?_⟩) (by assumption) ?_
  rotate_left
  · intro w hSw; (try dsimp only at hSw); go_simp; (try with_reducible rfl)
  (try simp only [Act.put, List.setIfInBounds_toArray, List.set_cons_zero, List.set_cons_succ])
  refine wpAnyH_take (i := 6) (oi := _) (v := ?_) at6 (by kernel_rfl) (by kernel_rfl) (by kernel_rfl) (fun _ _ _ h => h) (Or.inl ⟨by rfl, ?_⟩) (by assumption) ?_
  rotate_left
  · intro w hSw; (try dsimp only at hSw); go_simp; (try with_reducible rfl)
  (try simp only [Act.put, List.setIfInBounds_toArray, List.set_cons_zero, List.set_cons_succ])
  refine wpAnyH_take (i := 7) (oi := _) (v := ?_) at7 (by kernel_rfl) (by kernel_rfl) (by kernel_rfl) (fun _ _ _ h => h) (Or.inl ⟨by rfl, ?_⟩) (by assumption) ?_
  rotate_left
  · intro w hSw; (try dsimp only at hSw); go_simp; (try with_reducible rfl)
  (try simp only [Act.put, List.setIfInBounds_toArray, List.set_cons_zero, List.set_cons_succ])
  refine wpAnyH_take (i := 8) (oi := _) (v := ?_) at8 (by kernel_rfl) (by kernel_rfl) (by kernel_rfl) (fun _ _ _ h => h) (Or.inl ⟨by rfl, ?_⟩) (by assumption) ?_
  rotate_left
  · intro w hSw; (try dsimp only at hSw); go_simp; (try with_reducible rfl)
  (try simp only [Act.put, List.setIfInBounds_toArray, List.set_cons_zero, List.set_cons_succ])
  refine wpAnyH_take (i := 9) (oi := _) (v := ?_) at9 (by kernel_rfl) (by kernel_rfl) (by kernel_rfl) (fun _ _ _ h => h) (Or.inl ⟨by rfl, ?_⟩) (by assumption) ?_
  rotate_left
  · intro w hSw; (try dsimp only at hSw); go_simp; (try with_reducible rfl)
  (try simp only [Act.put, List.setIfInBounds_toArray, List.set_cons_zero, List.set_cons_succ])
  refine wpAnyH_take (i := 10) (oi := _) (v := ?_) at10 (by kernel_rfl) (by kernel_rfl) (by kernel_rfl) (fun _ _ _ h => h) (Or.inl ⟨by rfl, ?_⟩) (by assumption) ?_
  rotate_left
  · intro w hSw; (try dsimp only at hSw); go_simp; (try with_reducible rfl)
  (try simp only [Act.put, List.setIfInBounds_toArray, List.set_cons_zero, List.set_cons_succ])
  refine wpAnyH_take (i := 12) (oi := _) (v := ?_) at12 (by kernel_rfl) (by kernel_rfl) (by kernel_rfl) (fun _ _ _ h => h) (Or.inl ⟨by rfl, ?_⟩) (by assumption) ?_
  rotate_left
  · intro w hSw; (try dsimp only at hSw); go_simp; (try with_reducible rfl)
  (try simp only [Act.put, List.setIfInBounds_toArray, List.set_cons_zero, List.set_cons_succ])
  refine wpAnyH_ready (rs := [11, 13]) (by kernel_rfl) (by simp) ?_
  refine AllReadyH.cons (o := _) at11 (fun K hK => ?_) ?_
  · go_simp
    refine hK.out _ _ (by (try dsimp only); go_keep) (fun hHeld => ?_)
    clear hK K
    (try simp only [Act.put, List.setIfInBounds_toArray, List.set_cons_zero, List.set_cons_succ])
    refine wpAnyH_ready (rs := [13]) (by kernel_rfl) (by simp) ?_
    refine AllReadyH.cons (o := _) at13 (fun K hK => ?_) ?_
    · go_simp
      refine hK.out _ _ (by (try dsimp only); go_keep) (fun hHeld => ?_)
      clear hK K
      (try simp only [Act.put, List.setIfInBounds_toArray, List.set_cons_zero, List.set_cons_succ])
      refine wpAnyH_ready (rs := [14]) (by kernel_rfl) (by simp) ?_
      refine AllReadyH.cons (o := _) at14 (fun K hK => ?_) ?_
      · refine step_append_lies _ (by rfl) (.tmp 104) (.tmp 106) 68 (by rfl) 0 70 i0 _ 2 16 Try.underlying68 hi0 hz0 hz1 hz2 rfl (by decide) (.slice x n c) n (flatS S) (by rfl) (by exact Hown.out.alloc _) ⟨wr.heap.size, 0, none⟩ 1 1 [.int .i64 m, .int .i64 ops] (by rfl) (by rfl) (by exact HN.out) (two_one m ops) (by decide) (by unfold maxLen; omega) (by omega) (Nat.zero_le _) _ rfl ?_
        intro g cap w2 hown2 hg2 hl2 hgl2
        have hfz2 : w2.frozen? ⟨A, i, none⟩ = false := (World.grownBy.frozen_far hg2 _ (by simp; omega) (fun e => hvA e.symm)).trans hfzA2
        have hcA2 : w2.cell? ⟨A, i, none⟩ = some (.slice x n c) := World.grownBy.cell hg2 hcA1 (fun e => hvA e.symm)
        have hcR2 : w2.cell? ⟨R, 0, none⟩ = some (.slice (some ⟨A, 0, none⟩) nr nr) := World.grownBy.cell hg2 hcR1 (fun e => hvR e.symm)
        have hdm2 : w2.cell? ⟨w'.heap.size, 0, none⟩ = some (.int .i64 m) := World.grownBy.cell hg2 hdm1 (fun e => hvW e.symm)
        have hdp2 : w2.cell? ⟨w'.heap.size, 1, none⟩ = some (.int .i64 ops) := World.grownBy.cell hg2 hdp1 (fun e => hvW e.symm)
        have hsR : ∀ u, (w2.setCell ⟨A, i, none⟩ u).cell? ⟨R, 0, none⟩ = some (.slice (some ⟨A, 0, none⟩) nr nr) := fun u => (grown_setCell w2 A i u).cell hcR2 (by simpa using nRA)
        have hsm : ∀ u, (w2.setCell ⟨A, i, none⟩ u).cell? ⟨w'.heap.size, 0, none⟩ = some (.int .i64 m) := fun u => (grown_setCell w2 A i u).cell hdm2 (by simpa using nWA)
        have hsp : ∀ u, (w2.setCell ⟨A, i, none⟩ u).cell? ⟨w'.heap.size, 1, none⟩ = some (.int .i64 ops) := fun u => (grown_setCell w2 A i u).cell hdp2 (by simpa using nWA)
        have Hown2 : Hid _ := hown2
        have Hg2 : Hid _ := hg2
        have Hl2 : Hid _ := hl2
        clear hown2 hl2 hg2 hgl2
        refine hK.out _ _ (by (try dsimp only); go_keep) (fun hHeld => ?_)
        clear hK K
        (try simp only [Act.put, List.setIfInBounds_toArray, List.set_cons_zero, List.set_cons_succ])
        refine wpAnyH_take (i := 15) (oi := _) (v := ?_) at15 (by kernel_rfl) (by kernel_rfl) (by kernel_rfl) (fun _ _ _ h => h) (Or.inl ⟨by rfl, ?_⟩) (by assumption) ?_
        rotate_left
        · intro w hSw; (try dsimp only at hSw); go_simp; (try with_reducible rfl)
        (try simp only [Act.put, List.setIfInBounds_toArray, List.set_cons_zero, List.set_cons_succ])
        refine wpAnyH_ready (rs := [16]) (by kernel_rfl) (by simp) ?_
        refine AllReadyH.cons (o := _) at16 (fun K hK => ?_) ?_
        · go_simp
          refine hK.out _ _ (by (try dsimp only); go_keep) (fun hHeld => ?_)
          clear hK K
          (try simp only [Act.put, List.setIfInBounds_toArray, List.set_cons_zero, List.set_cons_succ])
          refine wpAnyH_done (by kernel_rfl) ?_ _
          refine NoPanic.normal ?_
          refine bodyPost_end (results_none rfl _ _ _) rfl ?_
          exact HQ.out #[] _ _ _ Hown2.out Hg2.out Hl2.out
        exact AllReadyH.nil
      exact AllReadyH.nil
    exact AllReadyH.nil
  refine AllReadyH.cons (o := _) at13 (fun K hK => ?_) ?_
  · go_simp
    refine hK.out _ _ (by (try dsimp only); go_keep) (fun hHeld => ?_)
    clear hK K
    (try simp only [Act.put, List.setIfInBounds_toArray, List.set_cons_zero, List.set_cons_succ])
    refine wpAnyH_ready (rs := [11]) (by kernel_rfl) (by simp) ?_
    refine AllReadyH.cons (o := _) at11 (fun K hK => ?_) ?_
    · go_simp
      refine hK.out _ _ (by (try dsimp only); go_keep) (fun hHeld => ?_)
      clear hK K
      (try simp only [Act.put, List.setIfInBounds_toArray, List.set_cons_zero, List.set_cons_succ])
      refine wpAnyH_ready (rs := [14]) (by kernel_rfl) (by simp) ?_
      refine AllReadyH.cons (o := _) at14 (fun K hK => ?_) ?_
      · refine step_append_lies _ (by rfl) (.tmp 104) (.tmp 106) 68 (by rfl) 0 70 i0 _ 2 16 Try.underlying68 hi0 hz0 hz1 hz2 rfl (by decide) (.slice x n c) n (flatS S) (by rfl) (by exact Hown.out.alloc _) ⟨wr.heap.size, 0, none⟩ 1 1 [.int .i64 m, .int .i64 ops] (by rfl) (by rfl) (by exact HN.out) (two_one m ops) (by decide) (by unfold maxLen; omega) (by omega) (Nat.zero_le _) _ rfl ?_
        intro g cap w2 hown2 hg2 hl2 hgl2
        have hfz2 : w2.frozen? ⟨A, i, none⟩ = false := (World.grownBy.frozen_far hg2 _ (by simp; omega) (fun e => hvA e.symm)).trans hfzA2
        have hcA2 : w2.cell? ⟨A, i, none⟩ = some (.slice x n c) := World.grownBy.cell hg2 hcA1 (fun e => hvA e.symm)
        have hcR2 : w2.cell? ⟨R, 0, none⟩ = some (.slice (some ⟨A, 0, none⟩) nr nr) := World.grownBy.cell hg2 hcR1 (fun e => hvR e.symm)
        have hdm2 : w2.cell? ⟨w'.heap.size, 0, none⟩ = some (.int .i64 m) := World.grownBy.cell hg2 hdm1 (fun e => hvW e.symm)
        have hdp2 : w2.cell? ⟨w'.heap.size, 1, none⟩ = some (.int .i64 ops) := World.grownBy.cell hg2 hdp1 (fun e => hvW e.symm)
        have hsR : ∀ u, (w2.setCell ⟨A, i, none⟩ u).cell? ⟨R, 0, none⟩ = some (.slice (some ⟨A, 0, none⟩) nr nr) := fun u => (grown_setCell w2 A i u).cell hcR2 (by simpa using nRA)
        have hsm : ∀ u, (w2.setCell ⟨A, i, none⟩ u).cell? ⟨w'.heap.size, 0, none⟩ = some (.int .i64 m) := fun u => (grown_setCell w2 A i u).cell hdm2 (by simpa using nWA)
        have hsp : ∀ u, (w2.setCell ⟨A, i, none⟩ u).cell? ⟨w'.heap.size, 1, none⟩ = some (.int .i64 ops) := fun u => (grown_setCell w2 A i u).cell hdp2 (by simpa using nWA)
        have Hown2 : Hid _ := hown2
        have Hg2 : Hid _ := hg2
        have Hl2 : Hid _ := hl2
        clear hown2 hl2 hg2 hgl2
        refine hK.out _ _ (by (try dsimp only); go_keep) (fun hHeld => ?_)
        clear hK K
        (try simp only [Act.put, List.setIfInBounds_toArray, List.set_cons_zero, List.set_cons_succ])
        refine wpAnyH_take (i := 15) (oi := _) (v := ?_) at15 (by kernel_rfl) (by kernel_rfl) (by kernel_rfl) (fun _ _ _ h => h) (Or.inl ⟨by rfl, ?_⟩) (by assumption) ?_
        rotate_left
        · intro w hSw; (try dsimp only at hSw); go_simp; (try with_reducible rfl)
        (try simp only [Act.put, List.setIfInBounds_toArray, List.set_cons_zero, List.set_cons_succ])
        refine wpAnyH_ready (rs := [16]) (by kernel_rfl) (by simp) ?_
        refine AllReadyH.cons (o := _) at16 (fun K hK => ?_) ?_
        · go_simp
          refine hK.out _ _ (by (try dsimp only); go_keep) (fun hHeld => ?_)
          clear hK K
          (try simp only [Act.put, List.setIfInBounds_toArray, List.set_cons_zero, List.set_cons_succ])
          refine wpAnyH_done (by kernel_rfl) ?_ _
          refine NoPanic.normal ?_
          refine bodyPost_end (results_none rfl _ _ _) rfl ?_
          exact HQ.out #[] _ _ _ Hown2.out Hg2.out Hl2.out
        exact AllReadyH.nil
      exact AllReadyH.nil
    exact AllReadyH.nil
  exact AllReadyH.nil

end Go.Proofs.Qxb6617269a
