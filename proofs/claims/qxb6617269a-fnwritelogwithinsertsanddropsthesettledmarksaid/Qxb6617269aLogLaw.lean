/-
  The plain laws of the log: what 'with' makes of a log kept as documented; no Go in sight.
-/
import Derived.Test.Qxb6617269aLog
namespace Go.Proofs.Qxb6617269a

/-- The order of a log kept as documented: by site, then strictly by counter; an entry without destinations is its site's newest. -/
def R (e f : Ent) : Prop := e.site < f.site ∨ (e.site = f.site ∧ e.ctr < f.ctr ∧ e.bare = false)

theorem R.trans {e f g : Ent} (h : R e f) (k : R f g) : R e g := by
  rcases h with h | ⟨h1, h2, h3⟩ <;> rcases k with k | ⟨k1, k2, k3⟩
  · exact .inl (by omega)
  · exact .inl (by omega)
  · exact .inl (by omega)
  · exact .inr ⟨by omega, by omega, h3⟩

/-- What zzValidLog's first loop asks of neighbours. -/
def ordB : List Ent → Bool
  | e :: f :: r => !decide (f.site < e.site) && !(e.site == f.site && decide (f.ctr ≤ e.ctr)) && ordB (f :: r)
  | _ => true

/-- What its second loop asks. -/
def markB : List Ent → Bool
  | e :: f :: r => !(e.bare && (f.site == e.site)) && markB (f :: r)
  | _ => true

def validB (L : List Ent) : Bool := ordB L && markB L

theorem valid_step {e f : Ent} {r : List Ent} (h : validB (e :: f :: r) = true) : R e f ∧ validB (f :: r) = true := by
  simp only [validB, ordB, markB, Bool.and_eq_true, Bool.not_eq_true', decide_eq_false_iff_not, Bool.and_eq_false_iff] at h
  obtain ⟨⟨⟨h1, h2⟩, h3⟩, h4, h5⟩ := h
  refine ⟨?_, by simp [validB, h3, h5]⟩
  by_cases hs : e.site < f.site
  · exact .inl hs
  · have he : e.site = f.site := by omega
    refine .inr ⟨he, ?_, ?_⟩
    · rcases h2 with h2 | h2
      · simp [he] at h2
      · simp at h2; omega
    · rcases h4 with h4 | h4
      · exact h4
      · simp [he] at h4

theorem valid_pairwise : ∀ {L : List Ent}, validB L = true → L.Pairwise R
  | [], _ => .nil
  | [e], _ => by simp
  | e :: f :: r, h => by
    have hs := valid_step h
    have ih := valid_pairwise hs.2
    refine .cons ?_ ih
    intro g hg
    rcases List.mem_cons.1 hg with rfl | hg
    · exact hs.1
    · exact hs.1.trans ((List.pairwise_cons.1 ih).1 g hg)

theorem valid_of_pairwise : ∀ {L : List Ent}, L.Pairwise R → validB L = true
  | [], _ => rfl
  | [e], _ => rfl
  | e :: f :: r, h => by
    have h1 := (List.pairwise_cons.1 h).1 f (by simp)
    have ih := valid_of_pairwise (List.pairwise_cons.1 h).2
    simp only [validB, Bool.and_eq_true] at ih
    simp only [validB, ordB, markB, Bool.and_eq_true, Bool.not_eq_true', decide_eq_false_iff_not, Bool.and_eq_false_iff]
    refine ⟨⟨⟨?_, ?_⟩, ih.1⟩, ?_, ih.2⟩
    · rcases h1 with h1 | ⟨h1, _, _⟩ <;> omega
    · rcases h1 with h1 | ⟨h1, h2, _⟩
      · left; simp; omega
      · right; simp; omega
    · rcases h1 with h1 | ⟨_, _, h3⟩
      · right; simp; omega
      · left; exact h3

/-- (site, counter) is newer than every entry of that site. -/
def newestB (L : List Ent) (s c : Int) : Bool := L.all fun e => !(e.site == s && decide (c ≤ e.ctr))

theorem newest_iff {L : List Ent} {s c : Int} : newestB L s c = true ↔ ∀ e ∈ L, e.site = s → e.ctr < c := by
  simp only [newestB, List.all_eq_true, Bool.not_eq_true', Bool.and_eq_false_iff, beq_eq_false_iff_ne, decide_eq_false_iff_not]
  refine ⟨fun h e he hs => ?_, fun h e he => ?_⟩
  · rcases h e he with h | h
    · exact absurd hs h
    · omega
  · by_cases hs : e.site = s
    · right; have := h e he hs; omega
    · left; exact hs

/-- purge leaves a log kept as documented as it is. -/
theorem purge_same : ∀ {L : List Ent}, L.Pairwise R → purge L = L
  | [], _ => rfl
  | [e], _ => by simp [purge, headIs]
  | e :: f :: r, h => by
    have h1 := (List.pairwise_cons.1 h).1 f (by simp)
    have ih := purge_same (List.pairwise_cons.1 h).2
    rw [purge, ih, if_neg]
    simp only [headIs, Bool.and_eq_true, beq_iff_eq, not_and]
    intro hb hs
    rcases h1 with h1 | ⟨_, _, h3⟩
    · omega
    · rw [h3] at hb; cases hb

def ltB (s : Int) (f : Ent) : Bool := decide (f.site < s)
def midB (s : Int) (f : Ent) : Bool := f.site == s && !f.bare
def gtB (s : Int) (f : Ent) : Bool := decide (s < f.site)

/-- What 'with' gives. -/
def W (e : Ent) (L : List Ent) : List Ent := L.filter (ltB e.site) ++ (L.filter (midB e.site) ++ (e :: L.filter (gtB e.site)))

theorem filter_none {p : Ent → Bool} {L : List Ent} (h : ∀ f ∈ L, p f = false) : L.filter p = [] := by
  rw [List.filter_eq_nil_iff]
  intro f hf
  simp [h f hf]

theorem filter_all {p : Ent → Bool} {L : List Ent} (h : ∀ f ∈ L, p f = true) : L.filter p = L := by
  rw [List.filter_eq_self]
  exact h

theorem site_le {f g : Ent} (h : R f g) : f.site ≤ g.site := by rcases h with h | ⟨h, _, _⟩ <;> omega

/-- The head of 'ins e r'. -/
theorem headIs_ins (e : Ent) (s : Int) : ∀ r : List Ent, headIs s (ins e r) = match r with | [] => e.site == s | g :: _ => if e.site < g.site then e.site == s else g.site == s
  | [] => rfl
  | g :: r => by simp only [ins]; split <;> rfl

theorem with_is (e : Ent) : ∀ {L : List Ent}, L.Pairwise R → purge (ins e L) = W e L
  | [], _ => by simp [ins, purge, headIs, W]
  | f :: r, h => by
    have hf := (List.pairwise_cons.1 h).1
    have hr := (List.pairwise_cons.1 h).2
    have ih := with_is e hr
    by_cases h1 : e.site < f.site
    · have e1 : (f :: r).filter (ltB e.site) = [] := filter_none fun g hg => by
        simp only [ltB, decide_eq_false_iff_not]
        rcases List.mem_cons.1 hg with rfl | hg
        · omega
        · have := site_le (hf g hg); omega
      have e2 : (f :: r).filter (midB e.site) = [] := filter_none fun g hg => by
        simp only [midB, Bool.and_eq_false_iff]
        left
        rcases List.mem_cons.1 hg with rfl | hg
        · simp; omega
        · have := site_le (hf g hg); simp; omega
      have e3 : (f :: r).filter (gtB e.site) = f :: r := filter_all fun g hg => by
        simp only [gtB, decide_eq_true_eq]
        rcases List.mem_cons.1 hg with rfl | hg
        · exact h1
        · have := site_le (hf g hg); omega
      rw [W, e1, e2, e3, ins, if_pos h1, purge, if_neg]
      · rw [purge_same h]; rfl
      · simp [headIs]; intro _; omega
    · rw [ins, if_neg h1, purge, ih]
      by_cases h2 : f.site = e.site
      · have hlt : r.filter (ltB e.site) = [] := filter_none fun g hg => by
          simp only [ltB, decide_eq_false_iff_not]
          have := site_le (hf g hg); omega
        have l1 : ltB e.site f = false := by simp [ltB, h2]
        have l3 : gtB e.site f = false := by simp [gtB, h2]
        cases hb : f.bare with
        | true =>
          have l2 : midB e.site f = false := by simp [midB, hb]
          have hgt : ∀ g ∈ r, e.site < g.site := fun g hg => by
            rcases hf g hg with h | ⟨_, _, h⟩
            · omega
            · rw [hb] at h; cases h
          rw [if_pos]
          · simp only [W, List.filter_cons, l1, l2, l3]; simp
          · simp only [Bool.true_and]
            rw [headIs_ins]
            cases r with
            | nil => simp [h2]
            | cons g r => simp only []; rw [if_pos (hgt g (by simp))]; simp [h2]
        | false =>
          have l2 : midB e.site f = true := by simp [midB, hb, h2]
          rw [if_neg (by simp)]
          simp only [W, List.filter_cons, l1, l2, l3, hlt]; simp
      · have h3 : f.site < e.site := by omega
        have l1 : ltB e.site f = true := by simp [ltB, h3]
        have l2 : midB e.site f = false := by simp [midB, h2]
        have l3 : gtB e.site f = false := by simp [gtB]; omega
        rw [if_neg]
        · simp only [W, List.filter_cons, l1, l2, l3]; simp
        · simp only [Bool.and_eq_true, not_and]
          intro hb
          rw [headIs_ins]
          cases r with
          | nil => simp; omega
          | cons g r =>
            simp only []
            split
            · simp; omega
            · rcases hf g (by simp) with h | ⟨_, _, h⟩
              · simp; omega
              · rw [hb] at h; cases h

theorem mem_W {e g : Ent} {L : List Ent} (h : g ∈ W e L) : g = e ∨ (g ∈ L ∧ (g.site = e.site → g.bare = false)) := by
  simp only [W, List.mem_append, List.mem_cons, List.mem_filter] at h
  rcases h with ⟨h1, h2⟩ | ⟨h1, h2⟩ | h | ⟨h1, h2⟩
  · right; refine ⟨h1, fun h => ?_⟩; simp [ltB] at h2; omega
  · right; refine ⟨h1, fun _ => ?_⟩; simp [midB] at h2; exact h2.2
  · exact .inl h
  · right; refine ⟨h1, fun h => ?_⟩; simp [gtB] at h2; omega

theorem W_pairwise {e : Ent} {L : List Ent} (h : L.Pairwise R) (hn : ∀ f ∈ L, f.site = e.site → f.ctr < e.ctr) : (W e L).Pairwise R := by
  have hp := fun p : Ent → Bool => h.filter p
  simp only [W, List.pairwise_append, List.pairwise_cons]
  refine ⟨hp _, ⟨hp _, ⟨?_, hp _⟩, ?_⟩, ?_⟩
  · intro g hg
    simp [gtB] at hg
    exact .inl hg.2
  · intro g hg x hx
    simp [midB] at hg
    rcases List.mem_cons.1 hx with rfl | hx
    · exact .inr ⟨hg.2.1, hn g hg.1 hg.2.1, hg.2.2⟩
    · simp [gtB] at hx; exact .inl (by omega)
  · intro g hg x hx
    simp [ltB] at hg
    simp only [List.mem_append, List.mem_cons, List.mem_filter] at hx
    rcases hx with ⟨_, hx⟩ | rfl | ⟨_, hx⟩
    · simp [midB] at hx; exact .inl (by omega)
    · exact .inl hg.2
    · simp [gtB] at hx; exact .inl (by omega)

theorem W_newest {a b : Ent} {L : List Ent} (hab : a.site ≠ b.site) (hn : ∀ f ∈ L, f.site = b.site → f.ctr < b.ctr) : ∀ f ∈ W a L, f.site = b.site → f.ctr < b.ctr := by
  intro f hf hs
  rcases mem_W hf with rfl | ⟨h, _⟩
  · exact absurd hs hab
  · exact hn f h hs

theorem filter_filter_none {p q : Ent → Bool} {L : List Ent} (h : ∀ f, p f = true → q f = false) : (L.filter p).filter q = [] := by
  apply filter_none
  intro f hf
  exact h f (List.mem_filter.1 hf).2

theorem filter_filter_eq {p q r : Ent → Bool} {L : List Ent} (h : ∀ f, (p f && q f) = r f) : (L.filter p).filter q = L.filter r := by
  rw [List.filter_filter]
  congr 1
  funext f
  rw [← h f, Bool.and_comm]

/-- Two sites commute. -/
theorem W_comm_lt {a b : Ent} {L : List Ent} (h : a.site < b.site) : W b (W a L) = W a (W b L) := by
  have a1 : ltB b.site a = true := by simp [ltB, h]
  have a2 : midB b.site a = false := by simp [midB]; intro h'; omega
  have a3 : gtB b.site a = false := by simp [gtB]; omega
  have b1 : ltB a.site b = false := by simp [ltB]; omega
  have b2 : midB a.site b = false := by simp [midB]; intro h'; omega
  have b3 : gtB a.site b = true := by simp [gtB, h]
  -- W b of W a
  have p1 : (L.filter (ltB a.site)).filter (ltB b.site) = L.filter (ltB a.site) := by
    rw [List.filter_eq_self]; intro f hf; have := (List.mem_filter.1 hf).2; simp [ltB] at this ⊢; omega
  have p2 : (L.filter (midB a.site)).filter (ltB b.site) = L.filter (midB a.site) := by
    rw [List.filter_eq_self]; intro f hf; have := (List.mem_filter.1 hf).2; simp [midB, ltB] at this ⊢; omega
  have p3 : (L.filter (ltB a.site)).filter (midB b.site) = [] := filter_filter_none fun f hf => by simp [ltB, midB] at hf ⊢; intro h'; omega
  have p4 : (L.filter (midB a.site)).filter (midB b.site) = [] := filter_filter_none fun f hf => by simp [midB] at hf ⊢; intro h'; omega
  have p5 : (L.filter (gtB a.site)).filter (midB b.site) = L.filter (midB b.site) := filter_filter_eq fun f => by
    rw [Bool.eq_iff_iff]; simp [gtB, midB]; intro h' _; omega
  have p6 : (L.filter (ltB a.site)).filter (gtB b.site) = [] := filter_filter_none fun f hf => by simp [ltB, gtB] at hf ⊢; omega
  have p7 : (L.filter (midB a.site)).filter (gtB b.site) = [] := filter_filter_none fun f hf => by simp [midB, gtB] at hf ⊢; omega
  have p8 : (L.filter (gtB a.site)).filter (gtB b.site) = L.filter (gtB b.site) := filter_filter_eq fun f => by
    rw [Bool.eq_iff_iff]; simp [gtB]; intro h'; omega
  -- W a of W b
  have q1 : (L.filter (ltB b.site)).filter (ltB a.site) = L.filter (ltB a.site) := filter_filter_eq fun f => by
    rw [Bool.eq_iff_iff]; simp [ltB]; intro h'; omega
  have q2 : (L.filter (midB b.site)).filter (ltB a.site) = [] := filter_filter_none fun f hf => by simp [midB, ltB] at hf ⊢; omega
  have q3 : (L.filter (gtB b.site)).filter (ltB a.site) = [] := filter_filter_none fun f hf => by simp [gtB, ltB] at hf ⊢; omega
  have q4 : (L.filter (ltB b.site)).filter (midB a.site) = L.filter (midB a.site) := filter_filter_eq fun f => by
    rw [Bool.eq_iff_iff]; simp [ltB, midB]; intro h' _; omega
  have q5 : (L.filter (midB b.site)).filter (midB a.site) = [] := filter_filter_none fun f hf => by simp [midB] at hf ⊢; intro h'; omega
  have q6 : (L.filter (gtB b.site)).filter (midB a.site) = [] := filter_filter_none fun f hf => by simp [gtB, midB] at hf ⊢; intro h'; omega
  have q7 : (L.filter (ltB b.site)).filter (gtB a.site) = (L.filter (gtB a.site)).filter (ltB b.site) := by rw [List.filter_filter, List.filter_filter]; congr 1; funext f; rw [Bool.and_comm]
  have q8 : (L.filter (midB b.site)).filter (gtB a.site) = L.filter (midB b.site) := by
    rw [List.filter_eq_self]; intro f hf; have := (List.mem_filter.1 hf).2; simp [midB, gtB] at this ⊢; omega
  have q9 : (L.filter (gtB b.site)).filter (gtB a.site) = L.filter (gtB b.site) := by
    rw [List.filter_eq_self]; intro f hf; have := (List.mem_filter.1 hf).2; simp [gtB] at this ⊢; omega
  simp only [W, List.filter_append, List.filter_cons, a1, a2, a3, b1, b2, b3, p1, p2, p3, p4, p5, p6, p7, p8, q1, q2, q3, q4, q5, q6, q7, q8, q9, if_true, Bool.false_eq_true, if_false, List.nil_append, List.append_assoc, List.cons_append]

theorem W_comm {a b : Ent} {L : List Ent} (h : a.site ≠ b.site) : W b (W a L) = W a (W b L) := by
  by_cases hlt : a.site < b.site
  · exact W_comm_lt hlt
  · exact (W_comm_lt (by omega)).symm

/-- A settled mark is forgotten once a newer entry of its site comes. -/
theorem W_forgets {s b : Ent} {L : List Ent} (hs : s.site = b.site) (hb : s.bare = true) : W b (W s L) = W b L := by
  have s1 : ltB b.site s = false := by simp [ltB, hs]
  have s2 : midB b.site s = false := by simp [midB, hb]
  have s3 : gtB b.site s = false := by simp [gtB, hs]
  have p1 : (L.filter (ltB b.site)).filter (ltB b.site) = L.filter (ltB b.site) := by rw [List.filter_filter]; simp
  have p2 : (L.filter (midB b.site)).filter (ltB b.site) = [] := filter_filter_none fun f hf => by simp [midB, ltB] at hf ⊢; omega
  have p3 : (L.filter (gtB b.site)).filter (ltB b.site) = [] := filter_filter_none fun f hf => by simp [gtB, ltB] at hf ⊢; omega
  have p4 : (L.filter (ltB b.site)).filter (midB b.site) = [] := filter_filter_none fun f hf => by simp [ltB, midB] at hf ⊢; intro h'; omega
  have p5 : (L.filter (midB b.site)).filter (midB b.site) = L.filter (midB b.site) := by rw [List.filter_filter]; simp
  have p6 : (L.filter (gtB b.site)).filter (midB b.site) = [] := filter_filter_none fun f hf => by simp [gtB, midB] at hf ⊢; intro h'; omega
  have p7 : (L.filter (ltB b.site)).filter (gtB b.site) = [] := filter_filter_none fun f hf => by simp [ltB, gtB] at hf ⊢; omega
  have p8 : (L.filter (midB b.site)).filter (gtB b.site) = [] := filter_filter_none fun f hf => by simp [midB, gtB] at hf ⊢; omega
  have p9 : (L.filter (gtB b.site)).filter (gtB b.site) = L.filter (gtB b.site) := by rw [List.filter_filter]; simp
  simp only [W, hs, List.filter_append, List.filter_cons, s1, s2, s3, p1, p2, p3, p4, p5, p6, p7, p8, p9, Bool.false_eq_true, if_false, List.nil_append, List.append_nil]

/-- How many entries bear this site and this counter. -/
def cnt (s c : Int) : List Ent → Nat
  | [] => 0
  | f :: r => (if f.site = s ∧ f.ctr = c then 1 else 0) + cnt s c r

theorem cnt_append (s c : Int) (L M : List Ent) : cnt s c (L ++ M) = cnt s c L + cnt s c M := by
  induction L with
  | nil => simp [cnt]
  | cons f r ih => simp only [List.cons_append, cnt, ih]; omega

theorem cnt_zero {s c : Int} {L : List Ent} (h : ∀ f ∈ L, ¬ (f.site = s ∧ f.ctr = c)) : cnt s c L = 0 := by
  induction L with
  | nil => rfl
  | cons f r ih => rw [cnt, if_neg (h f (by simp)), ih (fun g hg => h g (by simp [hg]))]

/-- In a log kept as documented an entry that is there is there once, and no other bears its name. -/
theorem cnt_one {e : Ent} {M : List Ent} (h : M.Pairwise R) (he : e ∈ M) : cnt e.site e.ctr M = 1 ∧ ∀ f ∈ M, f.site = e.site ∧ f.ctr = e.ctr → f = e := by
  induction M with
  | nil => simp at he
  | cons g r ih =>
    have hg := (List.pairwise_cons.1 h).1
    have hr := (List.pairwise_cons.1 h).2
    rcases List.mem_cons.1 he with rfl | he'
    · have hno : ∀ f ∈ r, ¬ (f.site = e.site ∧ f.ctr = e.ctr) := fun f hf ⟨h1, h2⟩ => by
        rcases hg f hf with h | ⟨_, h, _⟩ <;> omega
      refine ⟨by rw [cnt, if_pos ⟨rfl, rfl⟩, cnt_zero hno], fun f hf hfe => ?_⟩
      rcases List.mem_cons.1 hf with rfl | hf
      · rfl
      · exact absurd hfe (hno f hf)
    · have := ih hr he'
      have hne : ¬ (g.site = e.site ∧ g.ctr = e.ctr) := fun ⟨h1, h2⟩ => by
        rcases hg e he' with h | ⟨_, h, _⟩ <;> omega
      refine ⟨by rw [cnt, if_neg hne, this.1], fun f hf hfe => ?_⟩
      rcases List.mem_cons.1 hf with rfl | hf
      · exact absurd hfe hne
      · exact this.2 f hf hfe

theorem mem_W_keep {e g : Ent} {L : List Ent} (hg : g ∈ L) (h : g.site ≠ e.site) : g ∈ W e L := by
  simp only [W, List.mem_append, List.mem_cons, List.mem_filter]
  by_cases h1 : g.site < e.site
  · exact .inl ⟨hg, by simp [ltB, h1]⟩
  · exact .inr (.inr (.inr ⟨hg, by simp [gtB]; omega⟩))

theorem ord_bad1 {e f : Ent} {r : List Ent} (h : f.site < e.site) : ordB (e :: f :: r) = false := by simp [ordB, h]
theorem ord_bad2 {e f : Ent} {r : List Ent} (h : e.site = f.site) (h2 : f.ctr ≤ e.ctr) : ordB (e :: f :: r) = false := by simp [ordB, h, h2]
theorem ord_ok {e f : Ent} {r : List Ent} (h : ¬ f.site < e.site) (h2 : ¬ (e.site = f.site ∧ f.ctr ≤ e.ctr)) : ordB (e :: f :: r) = ordB (f :: r) := by
  have e1 : decide (f.site < e.site) = false := decide_eq_false h
  have e2 : (e.site == f.site && decide (f.ctr ≤ e.ctr)) = false := by
    rw [Bool.and_eq_false_iff]
    by_cases hs : e.site = f.site
    · right; exact decide_eq_false (fun h3 => h2 ⟨hs, h3⟩)
    · left; simpa using hs
  simp only [ordB, e1, e2]; simp
theorem mark_bad {e f : Ent} {r : List Ent} (h : e.da = none) (h2 : f.site = e.site) : markB (e :: f :: r) = false := by simp [markB, Ent.bare, h, h2]
theorem mark_ok1 {e f : Ent} {r : List Ent} {q : Addr} (h : e.da = some q) : markB (e :: f :: r) = markB (f :: r) := by simp [markB, Ent.bare, h]
theorem mark_ok2 {e f : Ent} {r : List Ent} (h2 : f.site ≠ e.site) : markB (e :: f :: r) = markB (f :: r) := by
  have : (f.site == e.site) = false := by simpa using h2
  simp [markB, this]

theorem mem_W_self (e : Ent) (L : List Ent) : e ∈ W e L := by simp [W]

end Go.Proofs.Qxb6617269a
