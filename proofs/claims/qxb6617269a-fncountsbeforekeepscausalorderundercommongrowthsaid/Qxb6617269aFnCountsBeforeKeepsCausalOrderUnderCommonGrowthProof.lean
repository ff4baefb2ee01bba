/-
  THE SHELL OF A PROOF OF 'Rows.FnCountsBeforeKeepsCausalOrderUnderCommonGrowthSaid' ('example.com/antecede/antecede/zzlaws_internal_protocol_b1.FnCountsBeforeKeepsCausalOrderUnderCommonGrowth'), WRITTEN BY PROGRAM (proof-skeleton.mjs, third state) off the guide's own print for that function. Not trusted: Lean checks it.
  ALL BUT THE WALK IS THE GUIDE's OWN WAY (howto/template/XProofs.lean; Derived/Test/ChunkProofs.lean for 'Below') at this function's number and types: leave it.
-/
import Derived.Test.Qxb6617269aFn4
import Derived.Test.Qxb6617269aArgs
import Derived.WalkKit
import Derived.ProofKit
import Derived.OpenShut
import Derived.ShutString
import Derived.ChangeOld
import Derived.Below
namespace Go.Proofs.Qxb6617269a.fnCountsBeforeKeepsCausalOrderUnderCommonGrowth
open Go.ChangeShapes Go.WideShapes Go.ChangeAt Go.RowKit
open Go.ChangeMaps (open_string shut_string)
set_option linter.unusedVariables false

/-! ### STEP 1: THE WALK: the Go text returns true, AND WRITES NOTHING THAT WAS THERE: 'Below w.heap.size w w'' (Derived/Below.lean: '.refl', '.alloc', '.drew', '.setCell' at a new block, '.trans'). Open each 'IsRow' by 'rcases' AHEAD of 'go_enter'; part every test ahead of the walk. -/
set_option maxRecDepth 100000 in
set_option maxHeartbeats 2000000 in
theorem walk (a0 : Option Addr) (len0 cap0 : Nat) (z0 : List Int) (a1 : Option Addr) (len1 cap1 : Nat) (z1 : List Int) (a2 : Option Addr) (len2 cap2 : Nat) (z2 : List Int) (w : World) (w0 : IsRow .i64 w a0 len0 cap0 z0) (w1 : IsRow .i64 w a1 len1 cap1 z1) (w2 : IsRow .i64 w a2 len2 cap2 z2) :
    Calls Try.prog 4 #[.slice a0 len0 cap0, .slice a1 len1 cap1, .slice a2 len2 cap2] w fun e w' => e = .returned (.bool true) ∧ Below w.heap.size w w' := by
  obtain ⟨xs, ex, rx, nx, mx⟩ := w0.row
  obtain ⟨ys, ey, ry, ny, my⟩ := w1.row
  obtain ⟨es, ee, re, ne, me⟩ := w2.row
  have HX : Hid (len0 = xs.length) := ex
  have HY : Hid (len1 = ys.length) := ey
  have HE : Hid (len2 = es.length) := ee
  clear ex ey ee nx ny ne w0 w1 w2
  by_cases h1 : len0 + len1 + len2 ≤ 1048576
  case neg =>
    clear rx ry re
    go_enter Try.func4, Try.ntmps4
    go_wp2_with (first | (go_at_call 12; refine (bytes12_no _ _ _ _ _ _ _ _ _ h1 mx my me _).mono ?_; rintro e w' ⟨rfl, rfl⟩))
    go_ret
    exact ⟨rfl, Below.refl _ _⟩
  by_cases h2 : len0 ≤ 32768
  case neg =>
    clear rx ry re
    go_enter Try.func4, Try.ntmps4
    go_wp2_with (first | (go_at_call 12; refine (bytes12_yes _ _ _ _ _ _ _ _ _ h1 _).mono ?_; rintro e w' ⟨rfl, rfl⟩))
    go_ret
    exact ⟨rfl, Below.refl _ _⟩
  by_cases h3 : len1 ≤ 32768
  case neg =>
    clear rx ry re
    go_enter Try.func4, Try.ntmps4
    go_wp2_with (first | (go_at_call 12; refine (bytes12_yes _ _ _ _ _ _ _ _ _ h1 _).mono ?_; rintro e w' ⟨rfl, rfl⟩))
    go_ret
    exact ⟨rfl, Below.refl _ _⟩
  by_cases h4 : len2 ≤ 32768
  case neg =>
    clear rx ry re
    go_enter Try.func4, Try.ntmps4
    go_wp2_with (first | (go_at_call 12; refine (bytes12_yes _ _ _ _ _ _ _ _ _ h1 _).mono ?_; rintro e w' ⟨rfl, rfl⟩))
    go_ret
    exact ⟨rfl, Below.refl _ _⟩
  by_cases h5 : len1 = len0
  case neg =>
    have h5' : ((len1 : Int) != (len0 : Int)) = true := by simp; omega
    clear rx ry re
    go_enter Try.func4, Try.ntmps4
    go_wp2_with (first | (go_at_call 12; refine (bytes12_yes _ _ _ _ _ _ _ _ _ h1 _).mono ?_; rintro e w' ⟨rfl, rfl⟩))
    go_ret
    exact ⟨rfl, Below.refl _ _⟩
  subst h5
  by_cases h6 : len2 = len1
  case neg =>
    have h6' : ((len2 : Int) != (len1 : Int)) = true := by simp; omega
    clear rx ry re
    go_enter Try.func4, Try.ntmps4
    go_wp2_with (first | (go_at_call 12; refine (bytes12_yes _ _ _ _ _ _ _ _ _ h1 _).mono ?_; rintro e w' ⟨rfl, rfl⟩))
    go_ret
    exact ⟨rfl, Below.refl _ _⟩
  subst h6
  have hl : len2 ≤ 9223372036854775807 := by omega
  obtain ⟨gx, Gx⟩ : ∃ r, Hid (Plain.csum 0 xs = r) := ⟨_, rfl⟩
  obtain ⟨gy, Gy⟩ : ∃ r, Hid (Plain.csum 0 ys = r) := ⟨_, rfl⟩
  obtain ⟨ge, Ge⟩ : ∃ r, Hid (Plain.csum 0 es = r) := ⟨_, rfl⟩
  cases gx with
  | none =>
    go_enter Try.func4, Try.ntmps4
    go_wp2_with fail
    refine (bytes12_yes _ _ _ _ _ _ _ _ _ h1 _).mono ?_
    rintro e w' ⟨rfl, rfl⟩
    go_wp2_with fail
    refine (sum_is _ _ _ xs _ _ Gx hl HX rx).mono ?_
    rintro e w' ⟨rfl, rfl⟩
    simp only [sumOut]
    go_wp2
    go_ret
    exact ⟨rfl, Below.refl _ _⟩
  | some sx =>
    cases gy with
    | none =>
      go_enter Try.func4, Try.ntmps4
      go_wp2_with fail
      refine (bytes12_yes _ _ _ _ _ _ _ _ _ h1 _).mono ?_
      rintro e w' ⟨rfl, rfl⟩
      go_wp2_with fail
      refine (sum_is _ _ _ xs _ _ Gx hl HX rx).mono ?_
      rintro e w' ⟨rfl, rfl⟩
      simp only [sumOut]
      go_wp2_with fail
      refine (sum_is _ _ _ ys _ _ Gy hl HY ry).mono ?_
      rintro e w' ⟨rfl, rfl⟩
      simp only [sumOut]
      go_wp2
      go_ret
      exact ⟨rfl, Below.refl _ _⟩
    | some sy =>
      cases ge with
      | none =>
        go_enter Try.func4, Try.ntmps4
        go_wp2_with fail
        refine (bytes12_yes _ _ _ _ _ _ _ _ _ h1 _).mono ?_
        rintro e w' ⟨rfl, rfl⟩
        go_wp2_with fail
        refine (sum_is _ _ _ xs _ _ Gx hl HX rx).mono ?_
        rintro e w' ⟨rfl, rfl⟩
        simp only [sumOut]
        go_wp2_with fail
        refine (sum_is _ _ _ ys _ _ Gy hl HY ry).mono ?_
        rintro e w' ⟨rfl, rfl⟩
        simp only [sumOut]
        go_wp2_with fail
        refine (sum_is _ _ _ es _ _ Ge hl HE re).mono ?_
        rintro e w' ⟨rfl, rfl⟩
        simp only [sumOut]
        go_wp2
        go_ret
        exact ⟨rfl, Below.refl _ _⟩
      | some se => exact fn4_core a0 a1 a2 len2 cap0 cap1 cap2 xs ys es w h2 HX HY HE rx ry re sx sy se Gx Gy Ge

/-! ### THE ROW's STEP: WRITTEN OUT: LEAVE IT -/
set_option maxRecDepth 100000 in
theorem lifted (os : Os) (started : os.Started) (H : Type) (enc : TypeId × Value → H) :
    ReturnsInHanded {} Try.checked os 4 .any (Rows.fnCountsBeforeKeepsCausalOrderUnderCommonGrowthSpec.pre6 enc Try.prog Try.f4 Rows.fnCountsBeforeKeepsCausalOrderUnderCommonGrowthRow.domain false) (Rows.fnCountsBeforeKeepsCausalOrderUnderCommonGrowthSpec.post enc Try.prog Try.f4 false true false false) := by
  refine returnsInHanded_of_change (C := Try.checked) own started (by kernel_rfl) Try.func4
    (ChangeSpec.witness6 (enc := enc) (C := Try.checked) false ⟨#[], #[.slice none 0 0, .slice none 0 0, .slice none 0 0], []⟩ 8 (by kernel_rfl) (by kernel_rfl) (by kernel_rfl) (by kernel_rfl)) ?_
  intro W base args ds gs before hval0 hW hcnd _
  have hval : ∀ (j : Nat) t v, Try.f4.params[j]? = some t → args[j]? = some v → Value.okWide Try.prog W .any base t v := hval0
  have hW' := hW
  obtain ⟨p, q, hA0, hV, rfl, hfz, hnd⟩ := hW
  have hA : DataW.TrodAll enc Try.prog W 0 (fun _ => true) true Try.f4.params.toList args.toList ds p := hA0
  rw [Try.params4] at hA hval
  obtain ⟨v0, vs0, d0, ds0, p0, q0, hargs, rfl, rfl, h0, r0⟩ := trodAll_cons hA
  obtain ⟨v1, vs1, d1, ds1, p1, q1, rfl, rfl, rfl, h1, r1⟩ := trodAll_cons r0
  obtain ⟨v2, vs2, d2, ds2, p2, q2, rfl, rfl, rfl, h2, r2⟩ := trodAll_cons r1
  obtain ⟨rfl, rfl, rfl⟩ := trodAll_nil r2
  obtain rfl : args = #[v0, v1, v2] := by cases args; simp_all
  obtain ⟨rfl, rfl⟩ := trodVars_none hV
  obtain ⟨a0, len0, cap0, rfl⟩ := okWide_slice Try.underlying22 (hval 0 22 v0 rfl rfl)
  have k0 := h0
  have lt0 : ∀ x ∈ p0, x.block < W.heap.size := by obtain ⟨m, hm⟩ := k0; exact DataW.trod_lt m _ _ _ hm
  obtain ⟨z0, w0⟩ : ∃ zs, IsRow .i64 W a0 len0 cap0 zs := by
    obtain ⟨fuel, hf⟩ := h0
    rcases open_ints Try.underlying22 Try.underlying3 (by kernel_rfl) hf with ⟨hcs, _⟩ | ⟨x, l, c, zs, hcs, _, hl, hm, hz, _, hcell, hwz⟩
    · simp [Value.cells] at hcs
      obtain ⟨rfl, rfl, rfl⟩ := hcs
      exact ⟨[], .inl ⟨rfl, rfl, rfl, rfl⟩⟩
    · simp [Value.cells] at hcs
      obtain ⟨rfl, rfl, rfl⟩ := hcs
      exact ⟨zs, .inr ⟨_, rfl, hl, hm, by simpa using hz, hcell, hwz⟩⟩
  obtain ⟨a1, len1, cap1, rfl⟩ := okWide_slice Try.underlying22 (hval 1 22 v1 rfl rfl)
  have k1 := h1
  have lt1 : ∀ x ∈ p1, x.block < W.heap.size := by obtain ⟨m, hm⟩ := k1; exact DataW.trod_lt m _ _ _ hm
  obtain ⟨z1, w1⟩ : ∃ zs, IsRow .i64 W a1 len1 cap1 zs := by
    obtain ⟨fuel, hf⟩ := h1
    rcases open_ints Try.underlying22 Try.underlying3 (by kernel_rfl) hf with ⟨hcs, _⟩ | ⟨x, l, c, zs, hcs, _, hl, hm, hz, _, hcell, hwz⟩
    · simp [Value.cells] at hcs
      obtain ⟨rfl, rfl, rfl⟩ := hcs
      exact ⟨[], .inl ⟨rfl, rfl, rfl, rfl⟩⟩
    · simp [Value.cells] at hcs
      obtain ⟨rfl, rfl, rfl⟩ := hcs
      exact ⟨zs, .inr ⟨_, rfl, hl, hm, by simpa using hz, hcell, hwz⟩⟩
  obtain ⟨a2, len2, cap2, rfl⟩ := okWide_slice Try.underlying22 (hval 2 22 v2 rfl rfl)
  have k2 := h2
  have lt2 : ∀ x ∈ p2, x.block < W.heap.size := by obtain ⟨m, hm⟩ := k2; exact DataW.trod_lt m _ _ _ hm
  obtain ⟨z2, w2⟩ : ∃ zs, IsRow .i64 W a2 len2 cap2 zs := by
    obtain ⟨fuel, hf⟩ := h2
    rcases open_ints Try.underlying22 Try.underlying3 (by kernel_rfl) hf with ⟨hcs, _⟩ | ⟨x, l, c, zs, hcs, _, hl, hm, hz, _, hcell, hwz⟩
    · simp [Value.cells] at hcs
      obtain ⟨rfl, rfl, rfl⟩ := hcs
      exact ⟨[], .inl ⟨rfl, rfl, rfl, rfl⟩⟩
    · simp [Value.cells] at hcs
      obtain ⟨rfl, rfl, rfl⟩ := hcs
      exact ⟨zs, .inr ⟨_, rfl, hl, hm, by simpa using hz, hcell, hwz⟩⟩
  clear hA0 hval0
  refine (walk a0 len0 cap0 z0 a1 len1 cap1 z1 a2 len2 cap2 z2 W w0 w1 w2).mono fun e W' ⟨he, bel⟩ => ?_
  subst he
  exact ⟨_, rfl, _, _, _, [], _, [], hW', trodAll_mk1 (shut_bool Try.underlying4 _), (trodAll_cons_mk (Below.trod laidOut (by kernel_rfl) (of_decide_eq_true (by kernel_rfl)) k0 bel lt0) (trodAll_cons_mk (Below.trod laidOut (by kernel_rfl) (of_decide_eq_true (by kernel_rfl)) k1 bel lt1) (trodAll_cons_mk (Below.trod laidOut (by kernel_rfl) (of_decide_eq_true (by kernel_rfl)) k2 bel lt2) trodAll_mk0))), rfl, bel.frame _, fun h => by cases h⟩

theorem over : Rows.fnCountsBeforeKeepsCausalOrderUnderCommonGrowthRow.holds Try.pinned (OpenSpec.ofChange Rows.fnCountsBeforeKeepsCausalOrderUnderCommonGrowthSpec) :=
  OpenClaim.holds_of_wide 4 Try.f4 rfl rfl rfl rfl rfl rfl rfl ⟨rfl, rfl, rfl, rfl, rfl⟩ rfl rfl rfl rfl rfl (by kernel_rfl) Try.func4 (by kernel_rfl)
    (of_decide_eq_true (by kernel_rfl)) (by unfold Func.isWrapper; first | (rw [if_pos (by decide +kernel)]; kernel_rfl) | (rw [if_neg (by decide +kernel)]; exact ⟨rfl, rfl⟩))
    (fun os started H enc _ => lifted os started H enc)

/-- ████ THE STATEMENT ████ -/
theorem proved : Rows.FnCountsBeforeKeepsCausalOrderUnderCommonGrowthSaid := over
#print axioms proved
end Go.Proofs.Qxb6617269a.fnCountsBeforeKeepsCausalOrderUnderCommonGrowth
