import Derived.Test.Qxb6617495aBytes
import Derived.Test.Qxb6617495aCut
import Derived.Maps.AppendAt
namespace Go.Proofs.Qxb6617495a
open Go.RowKit
open Go.WideMaps (keyOf_string_mk)
set_option linter.unusedVariables false

theorem Try.info9 : (Try.prog.info? 9).map (fun i => (i.zero, i.size, i.bytes)) = some (some (.string ByteArray.empty), 1, 16) := by kernel_rfl

theorem wpList_bget_is {w : World} {ops : Array Oper} {rest : List Oper} {o : Oper} {a : Act} {Q : Exit → Act → World → Prop} (hg : o.guard = none) (m x : Operand) (hop : o.op = Op.lookup 30 m x false) (b n : Nat) (F : ByteArray → Bool) (k : ByteArray) (r : Bool)
    (hm : a.eval m = .map (some b)) (hx : a.eval x = .string k) (hown : BMap w b F n) (hk : k.size ≤ maxLen) (hr : F k = r)
    (hK : wpList Try.prog ops Q rest (a.put o.dst (.bool r)) w) :
    wpList Try.prog ops Q (o :: rest) a w := by
  subst hr
  exact wpList_bget hg m x hop b n F k hm hx hown hk hK

/-- Two rows of strings, each the call's own, apart. -/
def TwoRows (base : Nat) (w : World) (kv tv : Value) (ks ts : List ByteArray) : Prop :=
  w.ownsRow base 9 1 kv ks.length (ks.map .string) ∧ w.ownsRow base 9 1 tv ts.length (ts.map .string) ∧ (∀ g, kv.ownBlock = some g → tv.ownBlock ≠ some g)

theorem TwoRows.upd {g : Nat} {w w' : World} {kv tv : Value} {ks ts : List ByteArray} (h : TwoRows (g + 1) w kv tv ks ts) (hg : w.grownBy w' (some g)) : TwoRows (g + 1) w' kv tv ks ts :=
  ⟨h.1.kept hg (.inr fun e => by have := h.1.lt g e; omega), h.2.1.kept hg (.inr fun e => by have := h.2.1.lt g e; omega), h.2.2⟩

theorem SMap.len {w : World} {b N n : Nat} {F : ByteArray → Option ByteArray} (h : SMap w b F N n) (ty : TypeId) : (Builtin.len_ #[28] ty #[.map (some b)]).run Try.prog w = .ok (.int .i64 N) w := by
  obtain ⟨D, h1, h2, h3, h4⟩ := h
  have hrun := h1.len Try.underlying28 ty
  rw [h4] at hrun
  exact hrun

theorem TwoRows.alloc {base : Nat} {w : World} {kv tv : Value} {ks ts : List ByteArray} (h : TwoRows base w kv tv ks ts) (o : Obj) : TwoRows base (w.alloc o) kv tv ks ts := ⟨h.1.alloc o, h.2.1.alloc o, h.2.2⟩

theorem TwoRows.app1 {base : Nat} {w w' : World} {kv kv' tv : Value} {ks ts : List ByteArray} {s : ByteArray} (h : TwoRows base w kv tv ks ts) (hk : w'.ownsRow base 9 1 kv' (ks.length + 1) (ks.map .string ++ [.string s])) (hg : w.grownBy w' kv.ownBlock) (hloc : kv'.ownBlock = kv.ownBlock ∨ kv'.ownBlock = some w.heap.size) : TwoRows base w' kv' tv (ks ++ [s]) ts := by
  obtain ⟨h1, h2, h3⟩ := h
  refine ⟨by simpa using hk, h2.kept hg ?_, ?_⟩
  · cases hkv : kv.ownBlock with
    | none => cases tv.ownBlock with
      | none => exact .inl rfl
      | some g => exact .inr (by simp)
    | some g => exact .inr (h3 g hkv)
  · intro g hgk e
    rcases hloc with hl | hl
    · exact h3 g (hl ▸ hgk) e
    · rw [hl] at hgk
      cases hgk
      have := h2.lt _ e
      omega

theorem TwoRows.app2 {base : Nat} {w w' : World} {kv tv tv' : Value} {ks ts : List ByteArray} {s : ByteArray} (h : TwoRows base w kv tv ks ts) (hk : w'.ownsRow base 9 1 tv' (ts.length + 1) (ts.map .string ++ [.string s])) (hg : w.grownBy w' tv.ownBlock) (hloc : tv'.ownBlock = tv.ownBlock ∨ tv'.ownBlock = some w.heap.size) : TwoRows base w' kv tv' ks (ts ++ [s]) := by
  obtain ⟨h1, h2, h3⟩ := h
  refine ⟨h1.kept hg ?_, by simpa using hk, ?_⟩
  · cases hkv : kv.ownBlock with
    | none => exact .inl rfl
    | some g => exact .inr (fun e => h3 g hkv e.symm)
  · intro g hgk e
    rcases hloc with hl | hl
    · exact h3 g hgk (hl ▸ e)
    · rw [hl] at e
      cases e
      have := h1.lt _ hgk
      omega

/-- What a row of strings reads. -/
theorem row_view {base : Nat} {w : World} {v : Value} {ks : List ByteArray} (h : w.ownsRow base 9 1 v ks.length (ks.map .string)) : ∃ a c, v = .slice a ks.length c ∧ ∀ (j : Nat) (s : ByteArray), ks[j]? = some s → ∃ g, a = some ⟨g, 0, none⟩ ∧ w.cell? ⟨g, j, none⟩ = some (.string s) := by
  rcases h.2 with ⟨rfl, h0⟩ | ⟨g, cap, cur, rfl, _⟩
  · refine ⟨none, 0, by rw [h0], ?_⟩
    intro j s hj
    have := (List.getElem?_eq_some_iff.1 hj).1
    omega
  · refine ⟨_, _, rfl, ?_⟩
    intro j s hj
    refine ⟨g, rfl, ?_⟩
    have := h.cells rfl j (.string s) (by rw [List.getElem?_map, hj]; rfl)
    by_cases h0 : j = 0
    · subst h0
      simpa [Addr.add] using this
    · simpa [Addr.add, h0] using this

theorem SMap.look {w : World} {b N n : Nat} {F : ByteArray → Option ByteArray} {k t : ByteArray} (h : SMap w b F N n) (hk : k.size ≤ maxLen) (hF : F k = some t) : (Instr.lookup 28 (.map (some b)) (.string k) false).run Try.prog w = .ok (.string t) w := by
  obtain ⟨D, h1, h2, h3, h4⟩ := h
  obtain ⟨v, ps, hrun, hv⟩ := h1.lookup law9 Try.underlying28 (zero9 w) (plainElem_string (H := Unit) Try.underlying9 (s := ByteArray.empty) (by decide)) (keyOf_string_mk Try.underlying9 hk)
  obtain ⟨s, rfl, hs, _⟩ := plainElem_string_inv Try.underlying9 hv
  rw [h3 k t hF] at hs
  simp only [Prod.mk.injEq] at hs
  have e : s = t := bytes_ext (by have := hs.1; simpa using this.symm)
  subst e
  exact hrun

theorem BMap.look {w : World} {b n : Nat} {F : ByteArray → Bool} {k : ByteArray} {r : Bool} (h : BMap w b F n) (hk : k.size ≤ maxLen) (hr : F k = r) : (Instr.lookup 30 (.map (some b)) (.string k) false).run Try.prog w = .ok (.bool r) w := by
  subst hr
  obtain ⟨D, h1, h2, h3⟩ := h
  obtain ⟨v, ps, hrun, hv⟩ := h1.lookup law9 Try.underlying30 (zero4 w) (plainElem_bool (H := Unit) Try.underlying4 false) (keyOf_string_mk Try.underlying9 hk)
  have hvv : v = .bool (F k) := by
    cases hF : F k with
    | true =>
      rw [h3 k hF] at hv
      unfold plainElem at hv
      rw [Try.underlying4] at hv
      cases v <;> simp at hv
      rw [hv.1]
    | false =>
      have hh : Maps.has D (.string k.data.toList) = false := by rw [h2 k, hF]
      rw [Maps.atKey_of_not_has hh] at hv
      unfold plainElem at hv
      rw [Try.underlying4] at hv
      cases v <;> simp at hv
      rw [hv.1]
  subst hvv
  exact hrun

theorem keys_le (L : List Ln) : (keysOf L).length ≤ L.length := by
  have := nodup_le (A := keysOf L) (B := L.map Ln.key) (nodup_keysOf L) (fun x hx => by
    obtain ⟨l, hl, e⟩ := (mem_keysOf L x).1 hx
    exact List.mem_map.2 ⟨l, hl, e⟩)
  simpa using this

/-- Where the loop over the tail stands. -/
def Four (L : List Ln) (cut n : Nat) (W : World) (cv i : Value) (wx : World) : Prop :=
  ∃ (k c e : Nat), k ≤ n - cut ∧ i = .int .i64 ((cut : Int) + (k : Int)) ∧ cv = .int .i64 c ∧ c ≤ k ∧ e ≤ k ∧ Hid (c = common (L.take cut) ((L.drop cut).take k)) ∧ BMap wx W.heap.size (seenR ((L.drop cut).take k)) e ∧ Below W.heap.size W wx

theorem Four.intro {L : List Ln} {cut n : Nat} {W : World} {cv i : Value} {wx : World} (k c e : Nat) (h1 : k ≤ n - cut) (h2 : i = .int .i64 ((cut : Int) + (k : Int))) (h3 : cv = .int .i64 c) (h4 : c ≤ k) (h5 : e ≤ k) (h6 : Hid (c = common (L.take cut) ((L.drop cut).take k))) (h7 : BMap wx W.heap.size (seenR ((L.drop cut).take k)) e) (h8 : Below W.heap.size W wx) : Four L cut n W cv i wx :=
  ⟨k, c, e, h1, h2, h3, h4, h5, h6, h7, h8⟩

theorem seenF_end (L : List Ln) : seenF L L.length = fun _ => false := by
  funext y
  simp [seenF, keysOf]

theorem strs_one (s : ByteArray) : ∀ u ∈ [Value.string s], u.oneCell' = true := by
  intro u hu
  simp at hu
  subst hu
  rfl

set_option maxRecDepth 100000 in
set_option maxHeartbeats 4000000 in
theorem fn3_walk (a : Option Addr) (n c : Nat) (v : Int) (L : List Ln) (w : World) (hn : n ≤ maxLen) (HL : Hid (n = L.length)) (hR : LRow w a L) (hok : ∀ l ∈ L, LnOk l) :
    Calls Try.prog 3 #[.slice a n c, .int .i64 v] w fun e w' => e = .returned (.bool true) ∧ Below w.heap.size w w' := by
  obtain ⟨i0, hi0, hz0, hz1, hz2⟩ := info_parts Try.info9
  go_enter Try.func3, Try.ntmps3
  go_wp2_with fail
  refine (bytes_any _ _ _ _ L _ hn HL hR hok).mono ?_
  rintro e w' ⟨b, rfl, rfl, hsm⟩
  cases b with
  | false =>
    go_wp2
    go_ret
    exact ⟨rfl, Below.refl _ _⟩
  | true =>
  have hS : SmallTo L n := hsm.out rfl
  clear hsm hn
  by_cases hn : n ≤ 65536
  case neg =>
    go_wp2
    go_ret
    exact ⟨rfl, Below.refl _ _⟩
  go_wp2_with fail
  go_loopw [5, 6] (fun z i wr => ∃ (k t q : Nat), k ≤ n ∧ i = .int .i64 k ∧ z = .int .i64 t ∧ t ≤ 1048576 ∧ wr = w.drewN q) (fun _ i _ => n - (intOf i).toNat)
  case atStart => exact ⟨0, 0, 0, Nat.zero_le _, rfl, rfl, Nat.zero_le _, rfl⟩
  case round =>
  obtain ⟨k, t, q, hk, rfl, rfl, ht, rfl⟩ := hrel
  by_cases hlt : k < n
  case pos => as_aux_lemma =>
    obtain ⟨f, hf⟩ : ∃ f, L[k]? = some f := ⟨L[k]'(by have := HL.out; omega), by simp⟩
    obtain ⟨b, off, e, c0, c1, c2, _⟩ := hR k f hf
    obtain ⟨s1, s2, s3⟩ := hS k f hlt hf
    subst e
    have hlt' : (k : Int) < (n : Int) := by omega
    clear hf hR hok hS
    by_cases g : t + (64 + f.t.size + f.e.size + f.k.size) ≤ 1048576
    · go_wp2
      go_quiet (fail)
      go_wp2
      go_roundw
      case rel => exact ⟨k + 1, t + (64 + f.t.size + f.e.size + f.k.size), _, by omega, by go_num, by go_num, g, by first | rfl | simp only [World.drewN_drewN]⟩
      case measure => simp [intOf]; omega
    · go_wp2
      go_quiet (fail)
      go_wp2
      go_ret
      exact ⟨rfl, by first | exact below_draws (Below.refl _ _) _ | exact below_draws (below_draws (Below.refl _ _) _) _⟩
  case neg => as_aux_lemma =>
  clear hk ht
  by_cases hv0 : v < 0
  case pos =>
    go_wp2
    go_ret
    exact ⟨rfl, below_draws (Below.refl _ _) _⟩
  by_cases hvn : (n : Int) < v
  case pos =>
    go_wp2
    go_ret
    exact ⟨rfl, below_draws (Below.refl _ _) _⟩
  obtain ⟨cut, hcut⟩ : ∃ cut : Nat, v = (cut : Int) := ⟨v.toNat, by omega⟩
  subst hcut
  have hcn : cut ≤ n := by omega
  clear hv0 hvn
  have hokS : ∀ l ∈ L, LnOk l := hok
  go_wp2_with fail
  refine (toLines_any a n c 0 n L _ hn HL (Nat.zero_le _) (Nat.le_refl _) (by exact hR)).mono ?_
  rintro x W1 ⟨g1, m1, sp1, rfl, hm1, hm1b, hB1, hg1, hb1⟩
  have hb1' : Below w.heap.size w W1 := ⟨hb1.os, hb1.tape, hb1.output, hb1.size, hb1.block⟩
  have hR1 := hR.keep hb1'
  clear hb1 hg1 hR
  go_wp2_with fail
  refine (toLines_any a n c 0 cut L _ hn HL (Nat.zero_le _) hcn hR1).mono ?_
  rintro x W2 ⟨g2, m2, sp2, rfl, hm2, hm2b, hB2, hg2, hb2⟩
  have hR2 := hR1.keep hb2
  have hB12 := hB1.keep hb2 hB1.lt
  have hb2' : Below w.heap.size w W2 := hb1'.trans (hb2.mono hb1'.size)
  clear hb2 hg2 hR1 hB1 hb1'
  go_wp2_with fail
  refine (toLines_any a n c cut n L _ hn HL hcn (Nat.le_refl _) hR2).mono ?_
  rintro x W3 ⟨g3, m3, sp3, rfl, hm3, hm3b, hB3, hg3, hb3⟩
  have hR3 := hR2.keep hb3
  have hB13 := hB12.keep hb3 hB12.lt
  have hB23 := hB2.keep hb3 hB2.lt
  have hb3' : Below w.heap.size w W3 := hb2'.trans (hb3.mono hb2'.size)
  clear hb3 hg3 hR2 hB12 hB2 hb2'
  have eA : (L.drop 0).take (n - 0) = L := by rw [List.drop_zero, Nat.sub_zero, HL.out, List.take_length]
  have eB : (L.drop 0).take (cut - 0) = L.take cut := by rw [List.drop_zero, Nat.sub_zero]
  have eC : (L.drop cut).take (n - cut) = L.drop cut := List.take_of_length_le (by rw [List.length_drop, ← HL.out]; omega)
  rw [eA] at hm1 hB13
  rw [eB] at hm2 hB23
  rw [eC] at hm3 hB3
  clear eA eB eC
  have hokA : ∀ l ∈ L.take cut, LnOk l := fun l hl => hok l (List.mem_of_mem_take hl)
  have hokB : ∀ l ∈ L.drop cut, LnOk l := fun l hl => hok l (List.mem_of_mem_drop hl)
  go_wp2_with fail
  refine (ZZbyKey_any g1 m1 m1 L sp1 _ hm1b hm1 hB13 hok).mono ?_
  rintro x W4 ⟨b1, rfl, hM1, _, hb4⟩
  have hR4 := hR3.keep hb4
  have hB24 := hB23.keep hb4 hB23.lt
  have hB34 := hB3.keep hb4 hB3.lt
  have hb4' : Below w.heap.size w W4 := hb3'.trans (hb4.mono hb3'.size)
  clear hb4 hR3 hB13 hB23 hB3 hb3'
  go_wp2_with fail
  refine (ZZbyKey_any g2 m2 m2 (L.take cut) sp2 _ hm2b hm2 hB24 hokA).mono ?_
  rintro x W5 ⟨b2, rfl, hM2, hb25, hb5⟩
  have hR5 := hR4.keep hb5
  have hB35 := hB34.keep hb5 hB34.lt
  have hM15 := hM1.keep hb5 hM1.lt
  have n12 : b1 < b2 := by have := hM1.lt; omega
  have hb5' : Below w.heap.size w W5 := hb4'.trans (hb5.mono hb4'.size)
  clear hb5 hR4 hB24 hB34 hM1 hb4' hb25
  go_wp2_with fail
  refine (ZZbyKey_any g3 m3 m3 (L.drop cut) sp3 _ hm3b hm3 hB35 hokB).mono ?_
  rintro x W6 ⟨b3, rfl, hM3, hb36, hb6⟩
  have hR6 := hR5.keep hb6
  have hM16 := hM15.keep hb6 hM15.lt
  have hM26 := hM2.keep hb6 hM2.lt
  have n23 : b2 < b3 := by have := hM2.lt; omega
  have hb6' : Below w.heap.size w W6 := hb5'.trans (hb6.mono hb5'.size)
  clear hb6 hR5 hB35 hM15 hM2 hb5' hb36
  have hmk := fun w => run_makeMap (P := Try.prog) 30 w
  go_wp2_with fail
  go_loopw [14, 15, 16] (fun kv tv i wr => ∃ (j : Nat) (ks ts : List ByteArray), j ≤ n ∧ i = .int .i64 ((j : Int) - 1) ∧ Back L j ks ts ∧ Hid (ks.length + j ≤ n) ∧ TwoRows (W6.heap.size + 1) wr kv tv ks ts ∧ BMap wr W6.heap.size (seenF L j) ks.length ∧ Below W6.heap.size W6 wr) (fun _ _ i _ => (intOf i + 1).toNat)
  case atStart => exact ⟨n, [], [], Nat.le_refl _, rfl, by rw [HL.out]; exact Back.start L, by show _ ≤ _; simp, ⟨World.ownsRow_nil _ _ _ _, World.ownsRow_nil _ _ _ _, fun g h => by cases h⟩, by rw [HL.out, seenF_end]; exact BMap.made W6, (Below.refl _ _).alloc (Nat.le_refl _) _⟩
  case round =>
  obtain ⟨j, ks, ts, hj, rfl, hBk, hkl, hT, hBM, hbr⟩ := hrel
  cases j with
  | succ j => as_aux_lemma =>
    have ej : ((j + 1 : Nat) : Int) - 1 = (j : Int) := by omega
    rw [ej]
    clear ej
    obtain ⟨f, hf⟩ : ∃ f, L[j]? = some f := ⟨L[j]'(by have := HL.out; omega), by simp⟩
    obtain ⟨ok1, ok2, ok3⟩ := hok f (List.mem_of_getElem? hf)
    obtain ⟨b, off, e, c0, c1, c2, _⟩ := hR6 j f hf
    have d0 := cell_keep hbr c0
    have d2 := cell_keep hbr c2
    have hbb := cell_lt c0
    subst e
    have hlt' : (j : Int) < (n : Int) := by omega
    have hjn : j < n := by omega
    have hkn : ks.length ≤ 65536 := by have := hkl.out; omega
    clear c1 c2
    cases hs : seenF L (j + 1) f.k with
    | true =>
      obtain ⟨hB', eS⟩ := hBk.old hf hs
      go_wp2_with (at_lookup; refine wpList_bget_is rfl _ _ rfl W6.heap.size _ (seenF L (j + 1)) f.k true rfl rfl hBM ok3 hs ?_)
      go_roundw
      case rel => exact ⟨j, ks, ts, by omega, by first | rfl | go_num, hB', by have := hkl.out; show _ ≤ _; omega, hT, by rw [← eS]; exact hBM, hbr⟩
      case measure => simp [intOf]
    | false =>
      obtain ⟨hB', eS⟩ := hBk.new hf hs
      go_upto_region 29 with (first | (at_lookup; refine wpList_bget_is rfl _ _ rfl W6.heap.size _ (seenF L (j + 1)) f.k false rfl rfl hBM ok3 hs ?_) | (at_mapUpdate; refine wpList_bput rfl _ _ _ rfl W6.heap.size _ (seenF L (j + 1)) f.k rfl rfl rfl hBM (by unfold maxLen; omega) ok3 ?_; intro w1 hM1 hg1))
      have hM1' : BMap w1 W6.heap.size (seenF L j) (ks.length + 1) := by rw [← eS]; exact hM1
      have hT1 := hT.upd hg1
      have hbr1 : Below W6.heap.size W6 w1 := hbr.grown hg1 (by have := hBM.lt; omega) (fun j hj => by cases hj; exact Nat.le_refl _)
      have hsz1 := hM1.lt
      clear hM1 hg1 hT hbr hBM d0 d2
      go_upto_region 30 with (at_builtin; refine wpList_append_own_at _ rfl _ _ 31 rfl (W6.heap.size + 1) 9 i0 (.string ByteArray.empty) 1 16 Try.underlying31 hi0 hz0 hz1 hz2 rfl (by decide) _ _ _ rfl (hT1.1.alloc _) ⟨w1.heap.size, 0, none⟩ 1 1 [.string f.k] rfl rfl (cell_one_new _ _ _) (strs_one _) (by unfold maxLen; omega) (by omega) (by simp; omega) ?_; intro kv' w2 hk2 hg2 hnil2 hloc2)
      have hbr2 : Below W6.heap.size W6 w2 := (hbr1.alloc (by omega) _).grown hg2 (by simp; omega) (fun j hj => by have := hT1.1.lt j hj; omega)
      have hM2 : BMap w2 W6.heap.size (seenF L j) (ks.length + 1) := (hM1'.kept (World.grownBy_alloc _ _ none) (by simp)).kept hg2 (fun e => by have := hT1.1.lt _ e.symm; omega)
      have hT2 := (hT1.alloc _).app1 hk2 hg2 hloc2
      have hsz2 := hM2.lt
      have d02 := cell_keep hbr2 c0
      have htl : ts.length ≤ 65536 := by rw [← hBk.1]; exact hkn
      clear hk2 hg2 hnil2 hloc2 hT1 hM1' hbr1
      go_wp2_with (at_builtin; refine wpList_append_own_at _ rfl _ _ 31 rfl (W6.heap.size + 1) 9 i0 (.string ByteArray.empty) 1 16 Try.underlying31 hi0 hz0 hz1 hz2 rfl (by decide) _ _ _ rfl (hT2.2.1.alloc _) ⟨w2.heap.size, 0, none⟩ 1 1 [.string f.t] rfl rfl (cell_one_new _ _ _) (strs_one _) (by unfold maxLen; omega) (by omega) (by simp; omega) ?_; intro tv' w3 hk3 hg3 hnil3 hloc3)
      have hbr3 : Below W6.heap.size W6 w3 := (hbr2.alloc (by omega) _).grown hg3 (by simp; omega) (fun j hj => by have := hT2.2.1.lt j hj; omega)
      have hM3' : BMap w3 W6.heap.size (seenF L j) (ks.length + 1) := (hM2.kept (World.grownBy_alloc _ _ none) (by simp)).kept hg3 (fun e => by have := hT2.2.1.lt _ e.symm; omega)
      have hT3 := (hT2.alloc _).app2 hk3 hg3 hloc3
      clear hk3 hg3 hnil3 hloc3 hT2 hM2 hbr2
      go_wp2
      go_roundw
      case rel => exact ⟨j, _, _, by omega, by first | rfl | go_num, hB', by have := hkl.out; show _ ≤ _; simp; omega, hT3, by simpa using hM3', hbr3⟩
      case measure => simp [intOf]
  | zero => as_aux_lemma =>
    have hlm := hBk.whole
    have hM1r := hM16.keep hbr hM16.lt
    have hl1 := hM1r.len
    rw [hlm] at hl1
    obtain ⟨ka, kc, ek, hkv⟩ := row_view hT.1
    obtain ⟨ta, tc, et, htv⟩ := row_view hT.2.1
    subst ek; subst et
    rw [← hBk.1] at *
    have hkn : ks.length ≤ 65536 := by have := hkl.out; omega
    go_wp2_with fail
    go_loopw [18] (fun i wx => ∃ (j q : Nat), j ≤ ks.length ∧ i = .int .i64 j ∧ wx = wr.drewN q) (fun i _ => ks.length - (intOf i).toNat)
    case atStart => exact ⟨0, 0, Nat.zero_le _, rfl, rfl⟩
    case round =>
    obtain ⟨j, q, hj, rfl, rfl⟩ := hrel
    by_cases hlt3 : j < ks.length
    case pos => as_aux_lemma =>
      obtain ⟨s, hs⟩ : ∃ s, ks[j]? = some s := ⟨ks[j]'hlt3, by simp⟩
      obtain ⟨u, hu⟩ : ∃ u, ts[j]? = some u := ⟨ts[j]'(by have := hBk.1; omega), by simp⟩
      have hm := hBk.2.2.2 j s u hs hu
      obtain ⟨gk, e1, ck⟩ := hkv j s hs
      obtain ⟨gt, e2, ct⟩ := htv j u hu
      subst e1; subst e2
      have hlt' : (j : Int) < (ks.length : Int) := by omega
      have hks : s.size ≤ maxLen := by
        obtain ⟨l, hl, el⟩ := (mem_keysOf _ _).1 ((hBk.2.2.1 (bytes s)).1 (List.mem_map_of_mem (List.mem_of_getElem? hs)))
        rw [← bytes_ext el]
        exact (hok l (by simpa using hl)).2.2
      clear hs hu
      go_wp2_with (at_lookup; refine wpList_sget_ok rfl _ _ rfl b1 _ _ (mapB L) s u rfl rfl (by exact hM1r) hks hm ?_)
      go_roundw
      case rel =>
        repeat apply Exists.intro
        refine ⟨⟨j + 1, _, by omega, by go_num, rfl⟩, ?_⟩
        rfl
      case measure => simp [intOf]; omega
    case neg => as_aux_lemma =>
      obtain ⟨W7, eW7⟩ : ∃ W, W = wr := ⟨_, rfl⟩
      subst eW7
      have hM2r := hM26.keep hbr hM26.lt
      have hM3r := hM3.keep hbr hM3.lt
      have hRr := hR6.keep hbr
      have hb7 : Below w.heap.size w W7 := hb6'.trans (hbr.mono hb6'.size)
      clear hM16 hM26 hM3 hR6 hb6' hbr hBk hkv htv hT hBM
      go_wp2_with fail
      go_loopw [21, 23] (fun cv i wx => Four L cut n W7 cv i wx) (fun _ i _ => n - (intOf i).toNat)
      case atStart => exact Four.intro 0 0 0 (Nat.zero_le _) (by simp) rfl (Nat.le_refl _) (Nat.le_refl _) (by show _ = _; simp [common, keysOf]) (by rw [List.take_zero, seenR_nil]; exact BMap.made _) (by exact (below_draws (Below.refl _ _) _).alloc (by simp) _)
      case round =>
      obtain ⟨k, cc, ee, hk, rfl, rfl, hck, hek, hcm, hBx, hbx⟩ := hrel
      have hM1x := hM1r.keep hbx hM1r.lt
      have hM2x := hM2r.keep hbx hM2r.lt
      have hM3x := hM3r.keep hbx hM3r.lt
      have hb1l := hM1r.lt
      have hb2l := hM2r.lt
      have hb3l := hM3r.lt
      by_cases hlt4 : k < n - cut
      case pos => as_aux_lemma =>
        obtain ⟨f, hf⟩ : ∃ f, L[cut + k]? = some f := ⟨L[cut + k]'(by have := HL.out; omega), by simp⟩
        obtain ⟨ok1, ok2, ok3⟩ := hok f (List.mem_of_getElem? hf)
        obtain ⟨b, off, e, c0, c1, c2, _⟩ := hRr (cut + k) f hf
        have d2 := cell_keep hbx c2
        have hbb := cell_lt c2
        subst e
        have hfd : (L.drop cut)[k]? = some f := by rw [List.getElem?_drop]; exact hf
        obtain ⟨v, hv⟩ := mapB_mem (List.mem_of_getElem? hfd)
        have hmL : mapB L f.k = some v := by
          have := tail_is (A := L.take cut) hv
          rwa [List.take_append_drop] at this
        have hst : (L.drop cut).take (k + 1) = (L.drop cut).take k ++ [f] := take_snoc hfd
        have hlt' : (cut : Int) + (k : Int) < (n : Int) := by omega
        have hlt0 : (0 : Int) ≤ (cut : Int) + (k : Int) := by omega
        have en : ((cut : Int) + (k : Int)).toNat = cut + k := by omega
        clear hfd hf c0 c1 c2
        cases hs : seenR ((L.drop cut).take k) f.k with
        | true =>
          obtain ⟨e1, e2⟩ := seenR_old (A := L.take cut) hs
          rw [← hst] at e1 e2
          go_wp2_with (at_lookup; first | (refine wpList_sget_ok rfl _ _ rfl b3 _ _ (mapB (L.drop cut)) f.k v rfl rfl (by exact hM3x) ok3 hv ?_) | (refine wpList_sget rfl _ _ rfl b1 _ _ (mapB L) f.k v rfl rfl (by exact hM1x) ok3 hmL ?_) | (refine wpList_bget_is rfl _ _ rfl W7.heap.size _ _ f.k true rfl rfl (by exact hBx) ok3 hs ?_))
          go_roundw
          case rel => first | exact Four.intro (k + 1) cc ee (by omega) (by go_num) rfl (by omega) (by omega) (by show _ = _; rw [← e2]; exact hcm.out) (by rw [← e1]; exact hBx) hbx | (refine ⟨_, _, _, ?_, rfl, rfl, rfl⟩; (· exact Four.intro (k + 1) cc ee (by omega) (by go_num) rfl (by omega) (by omega) (by show _ = _; rw [← e2]; exact hcm.out) (by rw [← e1]; exact hBx) hbx))
          case measure => simp [intOf]; omega
        | false =>
          have e1 := seenR_new hs
          rw [← hst] at e1
          cases hA : mapB (L.take cut) f.k with
          | none =>
            have e2 := common_no hs hA
            rw [← hst] at e2
            go_wp2_with (first | (at_lookup; first | (refine wpList_sget_ok rfl _ _ rfl b3 _ _ (mapB (L.drop cut)) f.k v rfl rfl (by exact hM3x) ok3 hv ?_) | (refine wpList_sget rfl _ _ rfl b1 _ _ (mapB L) f.k v rfl rfl (by exact hM1x) ok3 hmL ?_) | (refine wpList_bget_is rfl _ _ rfl W7.heap.size _ _ f.k false rfl rfl (by exact hBx) ok3 hs ?_) | (refine wpList_sget_no rfl _ _ rfl b2 _ _ (mapB (L.take cut)) f.k rfl rfl (by exact hM2x.kept hg1 (by simp; omega)) ok3 hA ?_)) | (at_mapUpdate; refine wpList_bput rfl _ _ _ rfl W7.heap.size _ _ f.k rfl rfl rfl (by exact hBx) (by unfold maxLen; omega) ok3 ?_; intro w1 hM1 hg1))
            have hM1' : BMap w1 W7.heap.size (seenR ((L.drop cut).take (k + 1))) (ee + 1) := by rw [← e1]; exact hM1
            have hbe : Below W7.heap.size W7 w1 := hbx.grown hg1 (by have := hBx.lt; omega) (fun j hj => by cases hj; exact Nat.le_refl _)
            go_roundw
            case rel => first | exact Four.intro (k + 1) cc (ee + 1) (by omega) (by go_num) rfl (by omega) (by omega) (by show _ = _; rw [← e2]; exact hcm.out) hM1' hbe | (refine ⟨_, _, _, ?_, rfl, rfl, rfl⟩; (· exact Four.intro (k + 1) cc (ee + 1) (by omega) (by go_num) rfl (by omega) (by omega) (by show _ = _; rw [← e2]; exact hcm.out) hM1' hbe))
            case measure => simp [intOf]; omega
          | some t =>
            have e2 := common_yes hs hA
            rw [← hst] at e2
            go_wp2_with (first | (at_lookup; first | (refine wpList_sget_ok rfl _ _ rfl b3 _ _ (mapB (L.drop cut)) f.k v rfl rfl (by exact hM3x) ok3 hv ?_) | (refine wpList_sget rfl _ _ rfl b1 _ _ (mapB L) f.k v rfl rfl (by exact hM1x) ok3 hmL ?_) | (refine wpList_bget_is rfl _ _ rfl W7.heap.size _ _ f.k false rfl rfl (by exact hBx) ok3 hs ?_) | (refine wpList_sget_ok rfl _ _ rfl b2 _ _ (mapB (L.take cut)) f.k t rfl rfl (by exact hM2x.kept hg1 (by simp; omega)) ok3 hA ?_)) | (at_mapUpdate; refine wpList_bput rfl _ _ _ rfl W7.heap.size _ _ f.k rfl rfl rfl (by exact hBx) (by unfold maxLen; omega) ok3 ?_; intro w1 hM1 hg1))
            have hM1' : BMap w1 W7.heap.size (seenR ((L.drop cut).take (k + 1))) (ee + 1) := by rw [← e1]; exact hM1
            have hbe : Below W7.heap.size W7 w1 := hbx.grown hg1 (by have := hBx.lt; omega) (fun j hj => by cases hj; exact Nat.le_refl _)
            go_roundw
            case rel => first | exact Four.intro (k + 1) (cc + 1) (ee + 1) (by omega) (by go_num) (by go_num) (by omega) (by omega) (by show _ = _; rw [← e2, ← hcm.out]) hM1' hbe | (refine ⟨_, _, _, ?_, rfl, rfl, rfl⟩; (· exact Four.intro (k + 1) (cc + 1) (ee + 1) (by omega) (by go_num) (by go_num) (by omega) (by omega) (by show _ = _; rw [← e2, ← hcm.out]) hM1' hbe))
            case measure => simp [intOf]; omega
      case neg => as_aux_lemma =>
        have kn : k = n - cut := by omega
        have htk : (L.drop cut).take k = L.drop cut := List.take_of_length_le (by rw [List.length_drop, ← HL.out]; omega)
        rw [htk] at hcm hBx
        have hge : (n : Int) ≤ (cut : Int) + (k : Int) := by omega
        have hge' : ¬ (cut : Int) + (k : Int) < (n : Int) := by omega
        clear hlt4 htk
        obtain ⟨W8, eW8⟩ : ∃ W, W = wr := ⟨_, rfl⟩
        subst eW8
        have hRx := hRr.keep hbx
        have hb8 : Below w.heap.size w W8 := hb7.trans (hbx.mono hb7.size)
        have hl2 := hM2x.len
        have hl3 := hM3x.len
        clear hM1r hM2r hM3r hRr hb7 hbx
        go_wp2_with fail
        go_loopw [29] (fun i wx => ∃ (k q : Nat), k ≤ cut ∧ i = .int .i64 k ∧ wx = W8.drewN q) (fun i _ => cut - (intOf i).toNat)
        case atStart => exact ⟨0, 0, Nat.zero_le _, rfl, rfl⟩
        case round =>
        obtain ⟨p, q5, hp, rfl, rfl⟩ := hrel
        by_cases hlt5 : p < cut
        case pos => as_aux_lemma =>
          obtain ⟨f, hf⟩ : ∃ f, L[p]? = some f := ⟨L[p]'(by have := HL.out; omega), by simp⟩
          obtain ⟨ok1, ok2, ok3⟩ := hok f (List.mem_of_getElem? hf)
          obtain ⟨b, off, e, c0, c1, c2, _⟩ := hRx p f hf
          subst e
          have hfd : (L.take cut)[p]? = some f := by rw [List.getElem?_take_of_lt hlt5]; exact hf
          obtain ⟨v, hv⟩ := mapB_mem (List.mem_of_getElem? hfd)
          have hlt' : (p : Int) < (cut : Int) := by omega
          have hltn : (p : Int) < (n : Int) := by omega
          have hpn : p < n := by omega
          clear hfd hf c0 c1
          cases hs : seenR (L.drop cut) f.k with
          | true =>
            have hbq : ∀ q, (Instr.lookup 30 (.map (some W7.heap.size)) (.string f.k) false).run Try.prog (W8.drewN q) = .ok (.bool true) (W8.drewN q) := fun q => BMap.look (w := W8.drewN q) (by exact hBx) ok3 hs
            go_wp2_with (at_lookup; first | (refine wpList_sget_ok rfl _ _ rfl b2 _ _ (mapB (L.take cut)) f.k v rfl rfl (by exact hM2x) ok3 hv ?_))
            go_roundw
            case rel => first | exact ⟨p + 1, q5, by omega, by go_num, rfl⟩ | exact ⟨p + 1, _, by omega, by go_num, by first | rfl | simp only [World.drewN_drewN]⟩
            case measure => simp [intOf]; omega
          | false =>
            have hmL : mapB L f.k = some v := by
              have := head_is (B := L.drop cut) hv hs
              rwa [List.take_append_drop] at this
            have hbq : ∀ q, (Instr.lookup 30 (.map (some W7.heap.size)) (.string f.k) false).run Try.prog (W8.drewN q) = .ok (.bool false) (W8.drewN q) := fun q => BMap.look (w := W8.drewN q) (by exact hBx) ok3 hs
            have hmq : ∀ q, (Instr.lookup 28 (.map (some b1)) (.string f.k) false).run Try.prog (W8.drewN q) = .ok (.string v) (W8.drewN q) := fun q => SMap.look (w := W8.drewN q) (by exact hM1x) ok3 hmL
            go_wp2_with (at_lookup; first | (refine wpList_sget_ok rfl _ _ rfl b2 _ _ (mapB (L.take cut)) f.k v rfl rfl (by exact hM2x) ok3 hv ?_))
            go_roundw
            case rel => first | exact ⟨p + 1, q5, by omega, by go_num, rfl⟩ | exact ⟨p + 1, _, by omega, by go_num, by first | rfl | simp only [World.drewN_drewN]⟩
            case measure => simp [intOf]; omega
        case neg => as_aux_lemma =>
          have hka := keys_append (L.take cut) (L.drop cut)
          have hk2 := keys_le (L.take cut)
          have hk3 := keys_le (L.drop cut)
          have hL2 : (L.take cut).length ≤ n := by rw [List.length_take, ← HL.out]; omega
          have hL3 : (L.drop cut).length ≤ n := by rw [List.length_drop, ← HL.out]; omega
          rw [List.take_append_drop, ← hcm.out] at hka
          have hq1 : ∀ q ty, (Builtin.len_ #[28] ty #[.map (some b1)]).run Try.prog (W8.drewN q) = .ok (.int .i64 (keysOf L).length) (W8.drewN q) := fun q ty => SMap.len (w := W8.drewN q) (by exact hM1x) ty
          have hq2 : ∀ q ty, (Builtin.len_ #[28] ty #[.map (some b2)]).run Try.prog (W8.drewN q) = .ok (.int .i64 (keysOf (L.take cut)).length) (W8.drewN q) := fun q ty => SMap.len (w := W8.drewN q) (by exact hM2x) ty
          have hq3 : ∀ q ty, (Builtin.len_ #[28] ty #[.map (some b3)]).run Try.prog (W8.drewN q) = .ok (.int .i64 (keysOf (L.drop cut)).length) (W8.drewN q) := fun q ty => SMap.len (w := W8.drewN q) (by exact hM3x) ty
          clear hl1 hl2 hl3 hM1x hM2x hM3x hBx hcm
          obtain ⟨N1, eN1⟩ : ∃ N, N = (keysOf L).length := ⟨_, rfl⟩
          obtain ⟨N2, eN2⟩ : ∃ N, N = (keysOf (L.take cut)).length := ⟨_, rfl⟩
          obtain ⟨N3, eN3⟩ : ∃ N, N = (keysOf (L.drop cut)).length := ⟨_, rfl⟩
          rw [← eN1] at hq1 hka
          rw [← eN2] at hq2 hka hk2
          rw [← eN3] at hq3 hka hk3
          clear eN1 eN2 eN3
          have hN2 : N2 ≤ 65536 := by omega
          have hN3 : N3 ≤ 65536 := by omega
          have hfin : (N1 : Int) = (N2 : Int) + (N3 : Int) - (cc : Int) := by omega
          go_wp2
          go_ret
          exact ⟨rfl, below_draws hb8 _⟩

end Go.Proofs.Qxb6617495a
