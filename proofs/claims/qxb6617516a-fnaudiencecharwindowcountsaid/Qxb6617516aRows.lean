/-
  No cell of these rows narrows 'for every input' (looked for: loops, veiled, ifaces, maps, wideKeys, modest, calm, conditions, laid).
  DERIVED. THE GIVEN ROWS OF THIS SEAT. 1 by the template 'for every input the law returns true; each argument reads behind the call as it read before'; 0 by the template 'total and deterministic' (their statements: Qxb6617516aTotals.lean).
  GIVEN WITH THE SEED: the statements are not yours to turn. If you find one false, say at which input.
  Laid BY PROGRAM, IN A SANDBOX (cutbox-rows.mjs): the forced cells as the released guide's own fill.sh prints them over the translation e758525dd5e5b5f5… (all of the seat's roots in one cut). By AI agents, Wed Nov 11 2026. No macro, syntax, notation, axiom, sorry.
-/
import Derived.Test.Qxb6617516aChecked
import GoSem.Claim
import GoSem.ClaimJoined
import GoSem.ClaimMapViews
import Derived.JoinedTies
import Derived.KernelRfl
namespace Go.Proofs.Qxb6617516a
/- THE CELL 'sum', in the pinned program and in every row, IS THE sha256 OF THE DUMP (.gsa) THAT Qxb6617516aProg.lean LOADS. Nothing in Lean hashes anything: it is a label: what it is worth is what the hold of that sum in a sandbox is worth. -/
noncomputable def Try.pinned : Pinned := { name := "qxb6617516a", sum := "e758525dd5e5b5f5d2898d0922ded6f7ae93809d8d50b3b1247172a277228532", checked := Try.checked }
namespace Rows
def none {H : Type} : Left H := { results := [], args := [] }

/-- 'zzlaws_root_b1.FnAudienceCharWindowCount': WHATEVER THE INPUT: true; the input reads as it did. -/
def fnAudienceCharWindowCountSpec : ChangeSpec := { name := "fnAudienceCharWindowCount", fn := fun _ => fun
  | [d1, d2] => { results := [.lit (.bool true)], args := [d1, d2] }
  | _ => none }
def fnAudienceCharWindowCountRow : OpenClaim := { program := "qxb6617516a", sum := "e758525dd5e5b5f5d2898d0922ded6f7ae93809d8d50b3b1247172a277228532", func := "example.com/strict-sign/strict-sign/zzlaws_root_b1.FnAudienceCharWindowCount", spec := "fnAudienceCharWindowCount", apart := false }
def FnAudienceCharWindowCountSaid : Prop := fnAudienceCharWindowCountRow.holds Try.pinned (OpenSpec.ofChange fnAudienceCharWindowCountSpec)

/-- ITS FALSE NEIGHBOUR: 'it returns false'. Refute it at one input. -/
def fnAudienceCharWindowCountWrong : ChangeSpec := { name := "fnAudienceCharWindowCount", fn := fun _ => fun
  | [d1, d2] => { results := [.lit (.bool false)], args := [d1, d2] }
  | _ => none }
def FnAudienceCharWindowCountWrongFalsely : Prop := fnAudienceCharWindowCountRow.holds Try.pinned (OpenSpec.ofChange fnAudienceCharWindowCountWrong)

end Rows
end Go.Proofs.Qxb6617516a
