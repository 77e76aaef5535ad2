/-
  No cell of these rows narrows 'for every input' (looked for: loops, veiled, ifaces, maps, wideKeys, modest, calm, conditions, laid).
  DERIVED. THE GIVEN ROWS OF THIS SEAT. 2 by the template 'for every input the law returns true; each argument reads behind the call as it read before'; 0 by the template 'total and deterministic' (their statements: Qxb6618336aTotals.lean).
  GIVEN WITH THE SEED: the statements are not yours to turn. If you find one false, say at which input.
  Laid BY PROGRAM, IN A SANDBOX (cutbox-rows.mjs): the forced cells as the released guide's own fill.sh prints them over the translation 3fd79711e758772a… (all of the seat's roots in one cut). By AI agents, Wed Nov 11 2026. No macro, syntax, notation, axiom, sorry.
-/
import Derived.Test.Qxb6618336aChecked
import GoSem.Claim
import GoSem.ClaimJoined
import GoSem.ClaimMapViews
import Derived.JoinedTies
import Derived.KernelRfl
namespace Go.Proofs.Qxb6618336a
/- THE CELL 'sum', in the pinned program and in every row, IS THE sha256 OF THE DUMP (.gsa) THAT Qxb6618336aProg.lean LOADS. Nothing in Lean hashes anything: it is a label: what it is worth is what the hold of that sum in a sandbox is worth. -/
noncomputable def Try.pinned : Pinned := { name := "qxb6618336a", sum := "3fd79711e758772a166b80cada7a26b3e1ded5b52dbc8fa98cbcc8c222ca9a60", checked := Try.checked }
namespace Rows
def none {H : Type} : Left H := { results := [], args := [] }

/-- 'zzlaws_pkg_resources_b1.FnNamedSpec': WHATEVER THE INPUT: true; the input reads as it did. -/
def fnNamedSpecSpec : ChangeSpec := { name := "fnNamedSpec", fn := fun _ => fun
  | [d1, d2, d3] => { results := [.lit (.bool true)], args := [d1, d2, d3] }
  | _ => none }
def fnNamedSpecRow : OpenClaim := { program := "qxb6618336a", sum := "3fd79711e758772a166b80cada7a26b3e1ded5b52dbc8fa98cbcc8c222ca9a60", func := "example.com/gaugeway/gaugeway/zzlaws_pkg_resources_b1.FnNamedSpec", spec := "fnNamedSpec", apart := false }
def FnNamedSpecSaid : Prop := fnNamedSpecRow.holds Try.pinned (OpenSpec.ofChange fnNamedSpecSpec)

/-- ITS FALSE NEIGHBOUR: 'it returns false'. Refute it at one input. -/
def fnNamedSpecWrong : ChangeSpec := { name := "fnNamedSpec", fn := fun _ => fun
  | [d1, d2, d3] => { results := [.lit (.bool false)], args := [d1, d2, d3] }
  | _ => none }
def FnNamedSpecWrongFalsely : Prop := fnNamedSpecRow.holds Try.pinned (OpenSpec.ofChange fnNamedSpecWrong)

/-- 'zzlaws_pkg_resources_b1.FnNamedSplit': WHATEVER THE INPUT: true; the input reads as it did. -/
def fnNamedSplitSpec : ChangeSpec := { name := "fnNamedSplit", fn := fun _ => fun
  | [d1, d2, d3, d4] => { results := [.lit (.bool true)], args := [d1, d2, d3, d4] }
  | _ => none }
def fnNamedSplitRow : OpenClaim := { program := "qxb6618336a", sum := "3fd79711e758772a166b80cada7a26b3e1ded5b52dbc8fa98cbcc8c222ca9a60", func := "example.com/gaugeway/gaugeway/zzlaws_pkg_resources_b1.FnNamedSplit", spec := "fnNamedSplit", apart := false }
def FnNamedSplitSaid : Prop := fnNamedSplitRow.holds Try.pinned (OpenSpec.ofChange fnNamedSplitSpec)

/-- ITS FALSE NEIGHBOUR: 'it returns false'. Refute it at one input. -/
def fnNamedSplitWrong : ChangeSpec := { name := "fnNamedSplit", fn := fun _ => fun
  | [d1, d2, d3, d4] => { results := [.lit (.bool false)], args := [d1, d2, d3, d4] }
  | _ => none }
def FnNamedSplitWrongFalsely : Prop := fnNamedSplitRow.holds Try.pinned (OpenSpec.ofChange fnNamedSplitWrong)

end Rows
end Go.Proofs.Qxb6618336a
