/-
  No cell of these rows narrows 'for every input' (looked for: loops, veiled, ifaces, maps, wideKeys, modest, calm, conditions, laid).
  DERIVED. THE GIVEN ROWS OF THIS SEAT. 1 by the template 'for every input the law returns true; each argument reads behind the call as it read before'; 0 by the template 'total and deterministic' (their statements: Qxb6618434aTotals.lean).
  GIVEN WITH THE SEED: the statements are not yours to turn. If you find one false, say at which input.
  Laid BY PROGRAM, IN A SANDBOX (cutbox-rows.mjs): the forced cells as the released guide's own fill.sh prints them over the translation 60769e590d0795d9… (all of the seat's roots in one cut). By AI agents, Wed Nov 11 2026. No macro, syntax, notation, axiom, sorry.
-/
import Derived.Test.Qxb6618434aChecked
import GoSem.Claim
import GoSem.ClaimJoined
import GoSem.ClaimMapViews
import Derived.JoinedTies
import Derived.KernelRfl
namespace Go.Proofs.Qxb6618434a
/- THE CELL 'sum', in the pinned program and in every row, IS THE sha256 OF THE DUMP (.gsa) THAT Qxb6618434aProg.lean LOADS. Nothing in Lean hashes anything: it is a label: what it is worth is what the hold of that sum in a sandbox is worth. -/
noncomputable def Try.pinned : Pinned := { name := "qxb6618434a", sum := "60769e590d0795d9cd037a7656f8923d43a48f4d27c9e6b1f9f33d3ddea306c6", checked := Try.checked }
namespace Rows
def none {H : Type} : Left H := { results := [], args := [] }

/-- 'zzlaws_internal_auth_b1.FnPrintableCut': WHATEVER THE INPUT: true; the input reads as it did. -/
def fnPrintableCutSpec : ChangeSpec := { name := "fnPrintableCut", fn := fun _ => fun
  | [d1, d2] => { results := [.lit (.bool true)], args := [d1, d2] }
  | _ => none }
def fnPrintableCutRow : OpenClaim := { program := "qxb6618434a", sum := "60769e590d0795d9cd037a7656f8923d43a48f4d27c9e6b1f9f33d3ddea306c6", func := "example.com/stowage/stowage/zzlaws_internal_auth_b1.FnPrintableCut", spec := "fnPrintableCut", apart := false }
def FnPrintableCutSaid : Prop := fnPrintableCutRow.holds Try.pinned (OpenSpec.ofChange fnPrintableCutSpec)

/-- ITS FALSE NEIGHBOUR: 'it returns false'. Refute it at one input. -/
def fnPrintableCutWrong : ChangeSpec := { name := "fnPrintableCut", fn := fun _ => fun
  | [d1, d2] => { results := [.lit (.bool false)], args := [d1, d2] }
  | _ => none }
def FnPrintableCutWrongFalsely : Prop := fnPrintableCutRow.holds Try.pinned (OpenSpec.ofChange fnPrintableCutWrong)

end Rows
end Go.Proofs.Qxb6618434a
