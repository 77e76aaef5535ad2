/-
  No cell of these rows narrows 'for every input' (looked for: loops, veiled, ifaces, maps, wideKeys, modest, calm, conditions, laid).
  DERIVED. THE GIVEN ROWS OF THIS SEAT. 2 by the template 'for every input the law returns true; each argument reads behind the call as it read before'; 0 by the template 'total and deterministic' (their statements: Qxb6618418aTotals.lean).
  GIVEN WITH THE SEED: the statements are not yours to turn. If you find one false, say at which input.
  Laid BY PROGRAM, IN A SANDBOX (cutbox-rows.mjs): the forced cells as the released guide's own fill.sh prints them over the translation 5b37f933413e7d35… (all of the seat's roots in one cut). By AI agents, Wed Nov 11 2026. No macro, syntax, notation, axiom, sorry.
-/
import Derived.Test.Qxb6618418aChecked
import GoSem.Claim
import GoSem.ClaimJoined
import GoSem.ClaimMapViews
import Derived.JoinedTies
import Derived.KernelRfl
namespace Go.Proofs.Qxb6618418a
/- THE CELL 'sum', in the pinned program and in every row, IS THE sha256 OF THE DUMP (.gsa) THAT Qxb6618418aProg.lean LOADS. Nothing in Lean hashes anything: it is a label: what it is worth is what the hold of that sum in a sandbox is worth. -/
noncomputable def Try.pinned : Pinned := { name := "qxb6618418a", sum := "5b37f933413e7d35c2bf0b8eed4b6bb7bd8931a612c27bf4eafe02311237c3f9", checked := Try.checked }
namespace Rows
def none {H : Type} : Left H := { results := [], args := [] }

/-- 'zzlaws_root_b1.FnSameStartPadRecurrence': WHATEVER THE INPUT: true; the input reads as it did. -/
def fnSameStartPadRecurrenceSpec : ChangeSpec := { name := "fnSameStartPadRecurrence", fn := fun _ => fun
  | [d1, d2] => { results := [.lit (.bool true)], args := [d1, d2] }
  | _ => none }
def fnSameStartPadRecurrenceRow : OpenClaim := { program := "qxb6618418a", sum := "5b37f933413e7d35c2bf0b8eed4b6bb7bd8931a612c27bf4eafe02311237c3f9", func := "example.com/pacewatch/pacewatch/zzlaws_root_b1.FnSameStartPadRecurrence", spec := "fnSameStartPadRecurrence", apart := false }
def FnSameStartPadRecurrenceSaid : Prop := fnSameStartPadRecurrenceRow.holds Try.pinned (OpenSpec.ofChange fnSameStartPadRecurrenceSpec)

/-- ITS FALSE NEIGHBOUR: 'it returns false'. Refute it at one input. -/
def fnSameStartPadRecurrenceWrong : ChangeSpec := { name := "fnSameStartPadRecurrence", fn := fun _ => fun
  | [d1, d2] => { results := [.lit (.bool false)], args := [d1, d2] }
  | _ => none }
def FnSameStartPadRecurrenceWrongFalsely : Prop := fnSameStartPadRecurrenceRow.holds Try.pinned (OpenSpec.ofChange fnSameStartPadRecurrenceWrong)

/-- 'zzlaws_root_b1.FnSameStartSymmetricDigitBlindSelf': WHATEVER THE INPUT: true; the input reads as it did. -/
def fnSameStartSymmetricDigitBlindSelfSpec : ChangeSpec := { name := "fnSameStartSymmetricDigitBlindSelf", fn := fun _ => fun
  | [d1, d2] => { results := [.lit (.bool true)], args := [d1, d2] }
  | _ => none }
def fnSameStartSymmetricDigitBlindSelfRow : OpenClaim := { program := "qxb6618418a", sum := "5b37f933413e7d35c2bf0b8eed4b6bb7bd8931a612c27bf4eafe02311237c3f9", func := "example.com/pacewatch/pacewatch/zzlaws_root_b1.FnSameStartSymmetricDigitBlindSelf", spec := "fnSameStartSymmetricDigitBlindSelf", apart := false }
def FnSameStartSymmetricDigitBlindSelfSaid : Prop := fnSameStartSymmetricDigitBlindSelfRow.holds Try.pinned (OpenSpec.ofChange fnSameStartSymmetricDigitBlindSelfSpec)

/-- ITS FALSE NEIGHBOUR: 'it returns false'. Refute it at one input. -/
def fnSameStartSymmetricDigitBlindSelfWrong : ChangeSpec := { name := "fnSameStartSymmetricDigitBlindSelf", fn := fun _ => fun
  | [d1, d2] => { results := [.lit (.bool false)], args := [d1, d2] }
  | _ => none }
def FnSameStartSymmetricDigitBlindSelfWrongFalsely : Prop := fnSameStartSymmetricDigitBlindSelfRow.holds Try.pinned (OpenSpec.ofChange fnSameStartSymmetricDigitBlindSelfWrong)

end Rows
end Go.Proofs.Qxb6618418a
