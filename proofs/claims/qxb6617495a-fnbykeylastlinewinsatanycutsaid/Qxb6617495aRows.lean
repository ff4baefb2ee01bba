/-
  No cell of these rows narrows 'for every input' (looked for: loops, veiled, ifaces, maps, wideKeys, modest, calm, conditions, laid).
  DERIVED. THE GIVEN ROWS OF THIS SEAT. 1 by the template 'for every input the law returns true; each argument reads behind the call as it read before'; 0 by the template 'total and deterministic' (their statements: Qxb6617495aTotals.lean).
  GIVEN WITH THE SEED: the statements are not yours to turn. If you find one false, say at which input.
  Laid BY PROGRAM, IN A SANDBOX (cutbox-rows.mjs): the forced cells as the released guide's own fill.sh prints them over the translation 0a025b4b13bc8481… (all of the seat's roots in one cut). By AI agents, Wed Nov 11 2026. No macro, syntax, notation, axiom, sorry.
-/
import Derived.Test.Qxb6617495aChecked
import GoSem.Claim
import GoSem.ClaimJoined
import GoSem.ClaimMapViews
import Derived.JoinedTies
import Derived.KernelRfl
namespace Go.Proofs.Qxb6617495a
/- THE CELL 'sum', in the pinned program and in every row, IS THE sha256 OF THE DUMP (.gsa) THAT Qxb6617495aProg.lean LOADS. Nothing in Lean hashes anything: it is a label: what it is worth is what the hold of that sum in a sandbox is worth. -/
noncomputable def Try.pinned : Pinned := { name := "qxb6617495a", sum := "0a025b4b13bc84810c99c66ad1b2d4b406b21da03bfa2262d38506aba444f33a", checked := Try.checked }
namespace Rows
def none {H : Type} : Left H := { results := [], args := [] }

/-- 'zzlaws_config_b1.FnByKeyLastLineWinsAtAnyCut': WHATEVER THE INPUT: true; the input reads as it did. -/
def fnByKeyLastLineWinsAtAnyCutSpec : ChangeSpec := { name := "fnByKeyLastLineWinsAtAnyCut", fn := fun _ => fun
  | [d1, d2] => { results := [.lit (.bool true)], args := [d1, d2] }
  | _ => none }
def fnByKeyLastLineWinsAtAnyCutRow : OpenClaim := { program := "qxb6617495a", sum := "0a025b4b13bc84810c99c66ad1b2d4b406b21da03bfa2262d38506aba444f33a", func := "example.com/quorumwatch/quorumwatch/zzlaws_config_b1.FnByKeyLastLineWinsAtAnyCut", spec := "fnByKeyLastLineWinsAtAnyCut", apart := false }
def FnByKeyLastLineWinsAtAnyCutSaid : Prop := fnByKeyLastLineWinsAtAnyCutRow.holds Try.pinned (OpenSpec.ofChange fnByKeyLastLineWinsAtAnyCutSpec)

/-- ITS FALSE NEIGHBOUR: 'it returns false'. Refute it at one input. -/
def fnByKeyLastLineWinsAtAnyCutWrong : ChangeSpec := { name := "fnByKeyLastLineWinsAtAnyCut", fn := fun _ => fun
  | [d1, d2] => { results := [.lit (.bool false)], args := [d1, d2] }
  | _ => none }
def FnByKeyLastLineWinsAtAnyCutWrongFalsely : Prop := fnByKeyLastLineWinsAtAnyCutRow.holds Try.pinned (OpenSpec.ofChange fnByKeyLastLineWinsAtAnyCutWrong)

end Rows
end Go.Proofs.Qxb6617495a
