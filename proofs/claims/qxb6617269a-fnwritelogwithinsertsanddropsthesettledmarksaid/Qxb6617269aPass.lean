/-
  The three passes of FnWriteLogWithInsertsAndDropsTheSettledMark over the log, as plain lists.
-/
import Derived.Test.Qxb6617269aLogLaw
namespace Go.Proofs.Qxb6617269a

/-- What pass p takes. -/
def sel (p : Nat) (s : Int) : Ent → Bool := match p with | 0 => ltB s | 1 => midB s | _ => gtB s
/-- What is still to be met behind pass p's own entries. -/
def rest (p : Nat) (e : Ent) (L : List Ent) : List Ent := match p with | 0 => L.filter (midB e.site) ++ (e :: L.filter (gtB e.site)) | 1 => e :: L.filter (gtB e.site) | _ => []
/-- What is still to be met when pass p begins. -/
def tail (p : Nat) (e : Ent) (L : List Ent) : List Ent := match p with | 0 => W e L | 1 => L.filter (midB e.site) ++ (e :: L.filter (gtB e.site)) | 2 => L.filter (gtB e.site) | _ => []

/-- The state in pass p at place k: j entries of M are met. -/
def Inv (p : Nat) (e : Ent) (L M : List Ent) (j k : Nat) : Prop := M.drop j = (L.drop k).filter (sel p e.site) ++ rest p e L

theorem Inv.start {p : Nat} {e : Ent} {L M : List Ent} {j : Nat} (hp : p < 3) (h : M.drop j = tail p e L) : Inv p e L M j 0 := by
  unfold Inv
  rw [h]
  match p, hp with
  | 0, _ => simp [tail, sel, rest, W]
  | 1, _ => simp [tail, sel, rest]
  | 2, _ => simp [tail, sel, rest]

theorem at_of_drop {M R : List Ent} {j : Nat} {f : Ent} (h : M.drop j = f :: R) : M[j]? = some f ∧ M.drop (j + 1) = R := by
  constructor
  · have := congrArg (·[0]?) h
    simpa using this
  · have := congrArg (List.drop 1) h
    simpa [List.drop_drop, Nat.add_comm] using this

theorem Inv.take {p : Nat} {e f : Ent} {L M : List Ent} {j k : Nat} (h : Inv p e L M j k) (hf : L[k]? = some f) (ht : sel p e.site f = true) : M[j]? = some f ∧ Inv p e L M (j + 1) (k + 1) := by
  unfold Inv at h ⊢
  have hd : L.drop k = f :: L.drop (k + 1) := by
    have hk : k < L.length := (List.getElem?_eq_some_iff.1 hf).1
    rw [List.drop_eq_getElem_cons hk, (List.getElem?_eq_some_iff.1 hf).2]
  rw [hd, List.filter_cons, if_pos ht, List.cons_append] at h
  exact at_of_drop h

theorem Inv.pass {p : Nat} {e f : Ent} {L M : List Ent} {j k : Nat} (h : Inv p e L M j k) (hf : L[k]? = some f) (ht : sel p e.site f = false) : Inv p e L M j (k + 1) := by
  unfold Inv at h ⊢
  have hd : L.drop k = f :: L.drop (k + 1) := by
    have hk : k < L.length := (List.getElem?_eq_some_iff.1 hf).1
    rw [List.drop_eq_getElem_cons hk, (List.getElem?_eq_some_iff.1 hf).2]
  rw [hd, List.filter_cons, if_neg (by simp [ht])] at h
  exact h

theorem Inv.done {p : Nat} {e : Ent} {L M : List Ent} {j k : Nat} (h : Inv p e L M j k) (hk : L.length ≤ k) : M.drop j = rest p e L := by
  unfold Inv at h
  rw [List.drop_eq_nil_of_le hk] at h
  simpa using h

end Go.Proofs.Qxb6617269a
