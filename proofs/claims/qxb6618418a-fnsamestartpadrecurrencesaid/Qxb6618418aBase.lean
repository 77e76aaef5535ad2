/-
  THE PLAIN PARTS: a slice of bytes in memory; how many bytes two lines begin with alike.
-/
import Derived.Test.Qxb6618418aRows
import Derived.WalkKit
import Derived.WalkSpells
import Derived.WalkLawsBesides
namespace Go.Proofs.Qxb6618418a
open Go.RowKit
set_option linter.unusedVariables false

/-- Is the byte a decimal digit? -/
def digB (x : Int) : Bool := decide (48 ≤ x) && decide (x ≤ 57)
/-- Equal bytes, or two digits. -/
def alikeB (x y : Int) : Bool := x == y || (digB x && digB y)
/-- The raw run of alike bytes. -/
def run : List Int → List Int → Nat
  | x :: xs, y :: ys => if alikeB x y then run xs ys + 1 else 0
  | _, _ => 0
/-- sameStart: the run, or 0 where it is shorter than 4. -/
def ss (xs ys : List Int) : Nat := if run xs ys < 4 then 0 else run xs ys

theorem run_le (xs : List Int) : ∀ ys, run xs ys ≤ xs.length ∧ run xs ys ≤ ys.length := by
  induction xs with
  | nil => intro ys; simp [run]
  | cons x xs ih =>
    intro ys
    cases ys with
    | nil => simp [run]
    | cons y ys =>
      simp only [run]
      have := ih ys
      split <;> simp <;> omega

/-- A slice of bytes: of an empty one nothing is known. -/
def IsS (w : World) (a : Option Addr) (len : Nat) (zs : List Int) : Prop :=
  zs.length = len ∧ (0 < len → ∃ b off, a = some ⟨b, off, none⟩ ∧ b < w.heap.size ∧ ∀ i (h : i < zs.length), w.cell? ⟨b, off + i, none⟩ = some (.int .u8 zs[i])) ∧ ∀ z ∈ zs, 0 ≤ z ∧ z ≤ 255

theorem IsS.below {w w' : World} {a : Option Addr} {len : Nat} {zs : List Int} (h : IsS w a len zs) (hb : Below w.heap.size w w') : IsS w' a len zs := by
  refine ⟨h.1, fun hl => ?_, h.2.2⟩
  obtain ⟨b, off, ha, hB, hR⟩ := h.2.1 hl
  exact ⟨b, off, ha, Nat.lt_of_lt_of_le hB hb.size, fun i hi => (hb.cell (p := ⟨b, off + i, none⟩) hB).trans (hR i hi)⟩

theorem IsS.drewN {w : World} {a : Option Addr} {len : Nat} {zs : List Int} (h : IsS w a len zs) (t : Nat) : IsS (w.drewN t) a len zs := h

theorem IsS.at {w : World} {a : Option Addr} {len : Nat} {zs : List Int} {k : Nat} (h : IsS w a len zs) (hk : k < len) :
    ∃ b off x, a = some ⟨b, off, none⟩ ∧ b < w.heap.size ∧ zs[k]? = some x ∧ w.cell? ⟨b, off + k, none⟩ = some (.int .u8 x) ∧ 0 ≤ x ∧ x ≤ 255 := by
  obtain ⟨h1, h2, h3⟩ := h
  obtain ⟨b, off, ha, hB, hR⟩ := h2 (by omega)
  have hz := h3 (zs[k]'(by omega)) (List.getElem_mem _)
  exact ⟨b, off, zs[k]'(by omega), ha, hB, by simp [h1, hk], hR k (by omega), hz.1, hz.2⟩

theorem drop_of {α : Type} {rs : List α} {k : Nat} {r : α} (hr : rs[k]? = some r) : rs.drop k = r :: rs.drop (k + 1) := by
  obtain ⟨h, rfl⟩ := List.getElem?_eq_some_iff.1 hr
  exact List.drop_eq_getElem_cons h

section
variable {zs ys : List Int} {k R : Nat} {x y : Int}
theorem run_go (hx : zs[k]? = some x) (hy : ys[k]? = some y) (h : alikeB x y = true) (H : Hid (run (zs.drop k) (ys.drop k) + k = R)) : Hid (run (zs.drop (k + 1)) (ys.drop (k + 1)) + (k + 1) = R) := by
  have := H.out
  rw [drop_of hx, drop_of hy] at this
  simp only [run, h, if_true] at this
  unfold Hid
  omega
theorem run_stop (hx : zs[k]? = some x) (hy : ys[k]? = some y) (h : alikeB x y = false) (H : Hid (run (zs.drop k) (ys.drop k) + k = R)) : R = k := by
  have := H.out
  rw [drop_of hx, drop_of hy] at this
  simp only [run, h, Bool.false_eq_true, if_false] at this
  omega
theorem run_end (h : zs.length ≤ k ∨ ys.length ≤ k) (H : Hid (run (zs.drop k) (ys.drop k) + k = R)) : R = k := by
  have h1 := H.out
  have h2 := run_le (zs.drop k) (ys.drop k)
  simp only [List.length_drop] at h2
  omega
end

set_option maxHeartbeats 400000 in
theorem isDigit_any (x : Int) (w : World) :
    Calls Try.prog 13 #[.int .u8 x] w fun e w' => e = .returned (.bool (digB x)) ∧ w' = w := by
  unfold digB
  go_enter Try.func13, Try.ntmps13
  go_wp2
  · have h : 48 ≤ x := by assumption
    go_ret
    exact ⟨by simp [h], rfl⟩
  · have h : ¬ 48 ≤ x := by omega
    go_ret
    exact ⟨by simp [h], rfl⟩

set_option maxHeartbeats 400000 in
theorem isDig_any (x : Int) (w : World) :
    Calls Try.prog 12 #[.int .u8 x] w fun e w' => e = .returned (.bool (digB x)) ∧ w' = w := by
  unfold digB
  go_enter Try.func12, Try.ntmps12
  go_wp2
  · have h : 48 ≤ x := by assumption
    go_ret
    exact ⟨by simp [h], rfl⟩
  · have h : ¬ 48 ≤ x := by omega
    go_ret
    exact ⟨by simp [h], rfl⟩

end Go.Proofs.Qxb6618418a
