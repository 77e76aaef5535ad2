/-
  No cell of these rows narrows 'for every input' (looked for: loops, veiled, ifaces, maps, wideKeys, modest, calm, conditions, laid).
  DERIVED. THE GIVEN ROWS OF THIS SEAT. 2 by the template 'for every input the law returns true; each argument reads behind the call as it read before'; 0 by the template 'total and deterministic' (their statements: Qxb6618375aTotals.lean).
  GIVEN WITH THE SEED: the statements are not yours to turn. If you find one false, say at which input.
  Laid BY PROGRAM, IN A SANDBOX (cutbox-rows.mjs): the forced cells as the released guide's own fill.sh prints them over the translation 42cd0d83209e7582… (all of the seat's roots in one cut). By AI agents, Wed Nov 11 2026. No macro, syntax, notation, axiom, sorry.
-/
import Derived.Test.Qxb6618375aChecked
import GoSem.Claim
import GoSem.ClaimJoined
import GoSem.ClaimMapViews
import Derived.JoinedTies
import Derived.KernelRfl
namespace Go.Proofs.Qxb6618375a
/- THE CELL 'sum', in the pinned program and in every row, IS THE sha256 OF THE DUMP (.gsa) THAT Qxb6618375aProg.lean LOADS. Nothing in Lean hashes anything: it is a label: what it is worth is what the hold of that sum in a sandbox is worth. -/
noncomputable def Try.pinned : Pinned := { name := "qxb6618375a", sum := "42cd0d83209e75823c0f639bf6d59a8575ffe4e5eabbed5410e9c6c9fca663c4", checked := Try.checked }
namespace Rows
def none {H : Type} : Left H := { results := [], args := [] }

/-- 'zzlaws_root_e1.FnMarshalJSONReadsBackAndNegates': WHATEVER THE INPUT: true; the input reads as it did. -/
def fnMarshalJSONReadsBackAndNegatesSpec : ChangeSpec := { name := "fnMarshalJSONReadsBackAndNegates", fn := fun _ => fun
  | [d1, d2, d3] => { results := [.lit (.bool true)], args := [d1, d2, d3] }
  | _ => none }
def fnMarshalJSONReadsBackAndNegatesRow : OpenClaim := { program := "qxb6618375a", sum := "42cd0d83209e75823c0f639bf6d59a8575ffe4e5eabbed5410e9c6c9fca663c4", func := "example.com/denary/denary/zzlaws_root_e1.FnMarshalJSONReadsBackAndNegates", spec := "fnMarshalJSONReadsBackAndNegates", apart := false }
def FnMarshalJSONReadsBackAndNegatesSaid : Prop := fnMarshalJSONReadsBackAndNegatesRow.holds Try.pinned (OpenSpec.ofChange fnMarshalJSONReadsBackAndNegatesSpec)

/-- ITS FALSE NEIGHBOUR: 'it returns false'. Refute it at one input. -/
def fnMarshalJSONReadsBackAndNegatesWrong : ChangeSpec := { name := "fnMarshalJSONReadsBackAndNegates", fn := fun _ => fun
  | [d1, d2, d3] => { results := [.lit (.bool false)], args := [d1, d2, d3] }
  | _ => none }
def FnMarshalJSONReadsBackAndNegatesWrongFalsely : Prop := fnMarshalJSONReadsBackAndNegatesRow.holds Try.pinned (OpenSpec.ofChange fnMarshalJSONReadsBackAndNegatesWrong)

/-- 'zzlaws_root_e1.FnMarshalJSONTrailingZero': WHATEVER THE INPUT: true; the input reads as it did. -/
def fnMarshalJSONTrailingZeroSpec : ChangeSpec := { name := "fnMarshalJSONTrailingZero", fn := fun _ => fun
  | [d1, d2, d3] => { results := [.lit (.bool true)], args := [d1, d2, d3] }
  | _ => none }
def fnMarshalJSONTrailingZeroRow : OpenClaim := { program := "qxb6618375a", sum := "42cd0d83209e75823c0f639bf6d59a8575ffe4e5eabbed5410e9c6c9fca663c4", func := "example.com/denary/denary/zzlaws_root_e1.FnMarshalJSONTrailingZero", spec := "fnMarshalJSONTrailingZero", apart := false }
def FnMarshalJSONTrailingZeroSaid : Prop := fnMarshalJSONTrailingZeroRow.holds Try.pinned (OpenSpec.ofChange fnMarshalJSONTrailingZeroSpec)

/-- ITS FALSE NEIGHBOUR: 'it returns false'. Refute it at one input. -/
def fnMarshalJSONTrailingZeroWrong : ChangeSpec := { name := "fnMarshalJSONTrailingZero", fn := fun _ => fun
  | [d1, d2, d3] => { results := [.lit (.bool false)], args := [d1, d2, d3] }
  | _ => none }
def FnMarshalJSONTrailingZeroWrongFalsely : Prop := fnMarshalJSONTrailingZeroRow.holds Try.pinned (OpenSpec.ofChange fnMarshalJSONTrailingZeroWrong)

end Rows
end Go.Proofs.Qxb6618375a
