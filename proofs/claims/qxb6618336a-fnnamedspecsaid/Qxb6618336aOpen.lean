/-
  A SLICE OF RESOURCES THAT CAME IN, OPENED: what it reads as in memory.
-/
import Derived.Test.Qxb6618336aPlain
import Derived.ProofKit
import Derived.OpenShut
import Derived.ShutString
import Derived.ChangeOld
import Derived.Deep.Slices
namespace Go.Proofs.Qxb6618336a
open Go.ChangeShapes Go.WideShapes Go.ChangeAt Go.RowKit Go.Deep
open Go.ChangeMaps (open_string shut_string)
set_option linter.unusedVariables false

theorem own : ownKnob Try.prog.godebug = none := by kernel_rfl
theorem laidOut : laidOutB Try.prog = true := by kernel_rfl
theorem Try.cells33 : Try.prog.cellsOf 33 = 6 := by kernel_rfl
theorem Try.cells9 : Try.prog.cellsOf 9 = 1 := by kernel_rfl
theorem Try.cells4 : Try.prog.cellsOf 4 = 1 := by kernel_rfl

theorem six {α : Type} (l : List α) (h : l.length = 6) : ∃ a b c d e f, l = [a, b, c, d, e, f] := by
  match l, h with
  | [a, b, c, d, e, f], _ => exact ⟨a, b, c, d, e, f, rfl⟩

section
variable {H : Type} {enc : TypeId × Value → H} {w : World} {base : Nat} {spare : Nat → Bool} {held : Bool}

/-- One element, opened: a resource. -/
theorem elem_open {n : Nat} {cs : List Value} {y : DataW H × List MemPlace} (h : DataW.trod enc Try.prog w base spare held n 33 cs = some y) (hl : cs.length = 6) : ∃ r : R, cs = r.cs := by
  obtain ⟨xs, k, _, _, _, hxl, hf⟩ := DataW.trod_struct Try.underlying33 h
  obtain ⟨v0, v1, v2, v3, v4, v5, rfl⟩ := six cs hl
  obtain ⟨y0, y1, y2, y3, y4, y5, rfl⟩ := six xs hxl
  have g0 := hf 0 _ rfl
  have g1 := hf 1 _ rfl
  have g2 := hf 2 _ rfl
  have g3 := hf 3 _ rfl
  have g4 := hf 4 _ rfl
  have g5 := hf 5 _ rfl
  simp [Try.cells9, Try.cells4] at g0 g1 g2 g3 g4 g5
  obtain ⟨s0, e0, _, _⟩ := DataW.trod_string Try.underlying9 g0
  obtain ⟨s1, e1, _, _⟩ := DataW.trod_string Try.underlying9 g1
  obtain ⟨s2, e2, _, _⟩ := DataW.trod_string Try.underlying9 g2
  obtain ⟨s3, e3, _, _⟩ := DataW.trod_string Try.underlying9 g3
  obtain ⟨s4, e4, _, _⟩ := DataW.trod_string Try.underlying9 g4
  obtain ⟨s5, e5, _⟩ := DataW.trod_bool Try.underlying4 g5
  simp at e0 e1 e2 e3 e4 e5
  exact ⟨⟨s0, s1, s2, s3, s4, s5⟩, by simp [R.cs, e0, e1, e2, e3, e4, e5]⟩

theorem isZ_open {fuel : Nat} {a : Option Addr} {len cap : Nat} {y : DataW H × List MemPlace} (h : DataW.trod enc Try.prog w base spare held fuel 22 [.slice a len cap] = some y) : ∃ rs, IsZ w a len rs := by
  rcases open_slice Try.underlying22 h with ⟨hcs, _⟩ | ⟨x, l, c, m, n, D, Pl, hcs, hb, hl, hm, hmm, _, hx⟩
  · simp at hcs
    obtain ⟨rfl, rfl, rfl⟩ := hcs
    exact ⟨[], rfl, fun h => absurd h (Nat.lt_irrefl _)⟩
  · simp at hcs
    obtain ⟨rfl, rfl, rfl⟩ := hcs
    have hlm : len ≤ m := by rw [hmm]; split <;> omega
    have each : ∀ i, i < len → ∃ r : R, ∀ j, j < 6 → w.cell? (x.add (i * 6 + j)) = r.cs[j]? := by
      intro i hi
      obtain ⟨cs', h1, h2⟩ := hx i (by omega)
      rw [Try.cells33] at h1
      obtain ⟨_, hcl, hcell⟩ := World.cells?_some h1
      obtain ⟨r, rfl⟩ := elem_open h2 hcl
      exact ⟨r, fun j hj => by rw [← hcell j hj, Deep.add_add]⟩
    have : Inhabited R := ⟨zeroR⟩
    obtain ⟨f, hf⟩ := choose_lt (α := R) (p := fun i r => ∀ j, j < 6 → w.cell? (x.add (i * 6 + j)) = r.cs[j]?) each
    refine ⟨(List.range len).map f, by simp, fun h0 => ?_⟩
    have hc0 := hf 0 h0 0 (by omega)
    have hc0' : w.cell? (x.add 0) = some (.string (f 0).g) := by simpa [R.cs] using hc0
    obtain ⟨b, off, spot⟩ := x
    have hspot : spot = none := by simpa [Addr.add] using World.cell?_spot hc0'
    subst hspot
    refine ⟨b, off, rfl, by simpa [Addr.add] using World.block_lt_of_cell? w _ hc0', fun i hi => ?_⟩
    have hi' : i < len := by simpa using hi
    have hc : ∀ j, j < 6 → w.cell? ⟨b, off + i * 6 + j, none⟩ = (f i).cs[j]? := fun j hj => by
      rw [← hf i hi' j hj, add_plain, Nat.add_assoc]
    simp only [List.getElem_map, List.getElem_range]
    exact ⟨hc 0 (by omega), hc 1 (by omega), hc 2 (by omega), hc 3 (by omega), hc 4 (by omega), hc 5 (by omega)⟩
end
end Go.Proofs.Qxb6618336a
