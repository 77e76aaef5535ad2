/-
  THE PLAIN PARTS of the seat's two laws: a resource as a record, a row of resources in memory, and what carries over from world to world.
-/
import Derived.Test.Qxb6618336aRows
import Derived.WalkKit
import Derived.WalkSpells
import Derived.WalkLawsBesides
namespace Go.Proofs.Qxb6618336a
open Go.RowKit

/-- One resource: the five strings and the flag. -/
structure R where
  g : ByteArray
  v : ByteArray
  p : ByteArray
  s : ByteArray
  k : ByteArray
  n : Bool

/-- The value of a resource. -/
def R.val (r : R) : Value := .agg #[.string r.g, .string r.v, .string r.p, .string r.s, .string r.k, .bool r.n]

/-- The six cells of a resource lie at ⟨b, o⟩. -/
def Cells (w : World) (b o : Nat) (r : R) : Prop :=
  w.cell? ⟨b, o, none⟩ = some (.string r.g) ∧ w.cell? ⟨b, o + 1, none⟩ = some (.string r.v) ∧ w.cell? ⟨b, o + 2, none⟩ = some (.string r.p) ∧
  w.cell? ⟨b, o + 3, none⟩ = some (.string r.s) ∧ w.cell? ⟨b, o + 4, none⟩ = some (.string r.k) ∧ w.cell? ⟨b, o + 5, none⟩ = some (.bool r.n)

/-- A slice of resources in memory: of an empty one nothing is known. -/
def IsZ (w : World) (a : Option Addr) (len : Nat) (rs : List R) : Prop :=
  rs.length = len ∧ (0 < len → ∃ b off, a = some ⟨b, off, none⟩ ∧ b < w.heap.size ∧ ∀ i (h : i < rs.length), Cells w b (off + i * 6) rs[i])

theorem Cells.below {w w' : World} {B b o : Nat} {r : R} (h : Cells w b o r) (hb : Below B w w') (hB : b < B) : Cells w' b o r := by
  obtain ⟨c0, c1, c2, c3, c4, c5⟩ := h
  refine ⟨?_, ?_, ?_, ?_, ?_, ?_⟩
  · rw [hb.cell (p := ⟨b, o, none⟩) hB]; exact c0
  · rw [hb.cell (p := ⟨b, o + 1, none⟩) hB]; exact c1
  · rw [hb.cell (p := ⟨b, o + 2, none⟩) hB]; exact c2
  · rw [hb.cell (p := ⟨b, o + 3, none⟩) hB]; exact c3
  · rw [hb.cell (p := ⟨b, o + 4, none⟩) hB]; exact c4
  · rw [hb.cell (p := ⟨b, o + 5, none⟩) hB]; exact c5

theorem IsZ.below {w w' : World} {a : Option Addr} {len : Nat} {rs : List R} (h : IsZ w a len rs) (hb : Below w.heap.size w w') : IsZ w' a len rs := by
  refine ⟨h.1, fun hl => ?_⟩
  obtain ⟨b, off, ha, hB, hR⟩ := h.2 hl
  exact ⟨b, off, ha, Nat.lt_of_lt_of_le hB hb.size, fun i hi => (hR i hi).below hb hB⟩

/-- One element, in a later world. -/
theorem IsZ.at {w wr : World} {a : Option Addr} {len : Nat} {rs : List R} {k : Nat} (h : IsZ w a len rs) (hb : Below w.heap.size w wr) (hk : k < len) :
    ∃ b off r, a = some ⟨b, off, none⟩ ∧ rs[k]? = some r ∧ Cells wr b (off + k * 6) r := by
  obtain ⟨h1, h2⟩ := h
  obtain ⟨b, off, ha, hB, hR⟩ := h2 (by omega)
  exact ⟨b, off, rs[k]'(by omega), ha, by simp [h1, hk], (hR k (by omega)).below hb hB⟩

/-- Does the resource answer to the name? -/
def nameIs (r : R) (nm : ByteArray) : Bool := r.p.toList == nm.toList || r.s.toList == nm.toList

end Go.Proofs.Qxb6618336a
