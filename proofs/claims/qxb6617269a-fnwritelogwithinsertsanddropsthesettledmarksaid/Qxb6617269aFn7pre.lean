import Derived.Test.Qxb6617269aFront
import Derived.Deep.DeepCutAuto
namespace Go.Proofs.Qxb6617269a
open Go.RowKit
set_option linter.unusedVariables false

theorem W_len (e : Ent) {L : List Ent} (h : L.Pairwise R) : (W e L).length ≤ L.length + 1 := by
  rw [← with_is e h]
  have := purge_length (ins e L)
  rw [ins_length] at this
  exact this

theorem valid_is (a1 a2 a3 a4 : Option Addr) (n k1 k2 k3 : Nat) (L : List Ent) (b : Bool) (hb : Hid (validB L = b)) (w : World) (hn : n ≤ 1000000) (HL : Hid (n = L.length)) (hC : Cols w a1 a2 a3 a4 L) :
    Calls Try.prog 15 #[.slice a1 n k1, .slice a2 n k2, .slice a3 n k3] w fun e w' => e = .returned (.bool b) ∧ ∃ q, w' = w.drewN q := by
  rw [← hb.out]; exact valid_any a1 a2 a3 a4 n k1 k2 k3 L w hn HL hC

theorem newest_is (a1 a2 a3 a4 : Option Addr) (n k1 k2 : Nat) (L : List Ent) (s c : Int) (b : Bool) (hb : Hid (newestB L s c = b)) (w : World) (hn : n ≤ 1000000) (HL : Hid (n = L.length)) (hC : Cols w a1 a2 a3 a4 L) :
    Calls Try.prog 16 #[.slice a1 n k1, .slice a2 n k2, .int .i64 s, .int .i64 c] w fun e w' => e = .returned (.bool b) ∧ w = w' := by
  rw [← hb.out]; exact newest_any a1 a2 a3 a4 n k1 k2 L s c w hn HL hC

/-- 'entryAt_self', the entry's fields as plain values. -/
theorem entryAt_vals (a1 a2 a3 a4 : Option Addr) (n k1 k2 k3 k4 j : Nat) (L : List Ent) (fs fc : Int) (fa : Option Addr) (fn fd : Nat) (fr : Int) (w : World) (hn : n ≤ 1000000) (HL : Hid (n = L.length)) (hC : Cols w a1 a2 a3 a4 L) (hf : Hid (L[j]? = some ⟨fs, fc, fa, fn, fd, fr⟩)) (hs : SetOk w fa fn) :
    Calls Try.prog 23 #[.slice a1 n k1, .slice a2 n k2, .slice a3 n k3, .slice a4 n k4, .int .i64 j, .int .i64 fs, .int .i64 fc, .slice fa fn fd, .int .i64 fr] w fun e w' => e = .returned (.bool true) ∧ ∃ q, w' = w.drewN q :=
  entryAt_self a1 a2 a3 a4 n k1 k2 k3 k4 j L ⟨fs, fc, fa, fn, fd, fr⟩ w hn HL hC hf hs

theorem Try.info76 : (Try.prog.info? 76).map (fun i => (i.zero, i.size, i.bytes)) = some (some (.int .u64 0), 1, 8) := by kernel_rfl
theorem Try.size76 : (Try.prog.info? 76).map (·.size) = some 1 := by kernel_rfl

end Go.Proofs.Qxb6617269a
