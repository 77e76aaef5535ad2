/-
  A SLICE OF BYTES THAT CAME IN, OPENED.
-/
import Derived.Test.Qxb6618418aBase
import Derived.ProofKit
import Derived.OpenShut
import Derived.ShutString
import Derived.ChangeOld
namespace Go.Proofs.Qxb6618418a
open Go.ChangeShapes Go.WideShapes Go.ChangeAt Go.RowKit
set_option linter.unusedVariables false

theorem own : ownKnob Try.prog.godebug = none := by kernel_rfl
theorem laidOut : laidOutB Try.prog = true := by kernel_rfl
theorem Try.cells5 : Try.prog.cellsOf 5 = 1 := by kernel_rfl

theorem isS_open {H : Type} {enc : TypeId × Value → H} {W : World} {base : Nat} {held : Bool} {fuel : Nat} {a : Option Addr} {len cap : Nat} {y : DataW H × List MemPlace}
    (h : DataW.trod enc Try.prog W base (fun _ => true) held fuel 22 [.slice a len cap] = some y) : ∃ zs, IsS W a len zs := by
  rcases open_ints Try.underlying22 Try.underlying5 Try.cells5 h with ⟨hcs, _⟩ | ⟨x, l, c, zs, hcs, _, hl, hm, hz, _, hcell, hwz⟩
  · simp at hcs
    obtain ⟨rfl, rfl, rfl⟩ := hcs
    exact ⟨[], rfl, fun h => absurd h (Nat.lt_irrefl _), fun z hz => by simp at hz⟩
  · simp at hcs
    obtain ⟨rfl, rfl, rfl⟩ := hcs
    have hlen : zs.length = cap := by simpa using hz
    refine ⟨zs.take len, by simp; omega, fun h0 => ?_, fun z hz => bounds_u8 (hwz z (List.mem_of_mem_take hz))⟩
    have hc0 := hcell 0 (by omega)
    obtain ⟨b, off, spot⟩ := x
    have hspot : spot = none := by simpa [Addr.add] using World.cell?_spot hc0
    subst hspot
    refine ⟨b, off, rfl, by simpa [Addr.add] using World.block_lt_of_cell? W _ hc0, fun i hi => ?_⟩
    have hi' : i < zs.length := by simp at hi; omega
    have hc := hcell i hi'
    rw [add_plain] at hc
    rw [hc]
    simp [List.getElem?_eq_getElem hi']

end Go.Proofs.Qxb6618418a
