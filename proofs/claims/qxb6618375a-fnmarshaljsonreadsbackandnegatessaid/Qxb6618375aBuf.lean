/-
  THE BUFFER of 22 cells that 'format' fills from its end on; the text, read from its end.
-/
import Derived.Test.Qxb6618375aSmall
namespace Go.Proofs.Qxb6618375a
open Go.RowKit
set_option linter.unusedVariables false

/-- The i-th decimal digit of c (from the last one on), as a byte. -/
def dig (c i : Nat) : Int := 48 + ((c / 10 ^ i % 10 : Nat) : Int)

theorem dig_lo (c i : Nat) : 48 ≤ dig c i := by unfold dig; omega
theorem dig_hi (c i : Nat) : dig c i ≤ 57 := by unfold dig; omega

/-- The last j digits, from the last one on. -/
def frac (c j : Nat) : List Int := (List.range j).map (dig c)
theorem frac_len (c j : Nat) : (frac c j).length = j := by simp [frac]
theorem frac_succ (c j : Nat) : frac c (j + 1) = frac c j ++ [dig c j] := by simp [frac, List.range_succ]

/-- The text from its end on, the sign left out: the digits behind the point, the point, i digits ahead of it. -/
def body (c s i : Nat) : List Int := frac c s ++ (if s = 0 then [] else [46]) ++ (List.range i).map (fun t => dig c (s + t))
theorem body_zero (c s : Nat) : body c s 0 = frac c s ++ (if s = 0 then [] else [46]) := by simp [body]
theorem body_succ (c s i : Nat) : body c s (i + 1) = body c s i ++ [dig c (s + i)] := by simp [body, List.range_succ]
theorem body_len (c s i : Nat) : (body c s i).length = s + (if s = 0 then 0 else 1) + i := by
  unfold body
  simp only [List.length_append, frac_len, List.length_map, List.length_range]
  split <;> simp
/-- .. with the sign. -/
def rev (c s i : Nat) (neg : Bool) : List Int := body c s i ++ (if neg then [45] else [])

/-- THE BUFFER: the block's 22 cells are there, none frozen; its end holds rv, read from the end. -/
def Buf (w : World) (B : Nat) (rv : List Int) : Prop :=
  B < w.heap.size ∧ (∀ j, j < 22 → ∃ v, w.cell? ⟨B, j, none⟩ = some v) ∧ (∀ j, w.frozen? ⟨B, j, none⟩ = false) ∧ ∀ i v, rv[i]? = some v → i < 22 ∧ w.cell? ⟨B, 21 - i, none⟩ = some (.int .u8 v)

theorem Buf.alike {w w' : World} {B : Nat} {rv : List Int} (h : Buf w B rv) (ha : w'.Alike w) : Buf w' B rv := by
  obtain ⟨h1, h2, h3, h4⟩ := h
  have hh : w'.heap = w.heap := ha.1
  have hc : ∀ a, w'.cell? a = w.cell? a := fun a => by simp [World.cell?, hh]
  have hf : ∀ a, w'.frozen? a = w.frozen? a := fun a => by simp [World.frozen?, hh]
  exact ⟨by rw [hh]; exact h1, fun j hj => by rw [hc]; exact h2 j hj, fun j => by rw [hf]; exact h3 j, fun i v hv => ⟨(h4 i v hv).1, by rw [hc]; exact (h4 i v hv).2⟩⟩

theorem cell_ne {w : World} {B o o' : Nat} {v : Value} (h : o ≠ o') : (w.setCell ⟨B, o, none⟩ v).cell? ⟨B, o', none⟩ = w.cell? ⟨B, o', none⟩ := World.cell?_setCell_other _ _ _ _ (fun e => h (congrArg Addr.off e))
theorem cell_eq {w : World} {B o : Nat} {v u : Value} (h : w.cell? ⟨B, o, none⟩ = some u) : (w.setCell ⟨B, o, none⟩ v).cell? ⟨B, o, none⟩ = some v := World.cell?_setCell_same _ _ _ h

theorem Buf.push {w : World} {B n : Nat} {rv : List Int} (h : Buf w B rv) (hn : n + 1 + rv.length = 22) (x : Int) : Buf (w.setCell ⟨B, n, none⟩ (.int .u8 x)) B (rv ++ [x]) := by
  obtain ⟨h1, h2, h3, h4⟩ := h
  obtain ⟨v0, hv0⟩ := h2 n (by omega)
  refine ⟨by simpa using h1, fun j hj => ?_, fun j => by rw [World.frozen?_setCell]; exact h3 j, fun i v hv => ?_⟩
  · obtain ⟨v, hv⟩ := h2 j hj
    exact cell?_setCell_some hv
  · by_cases hi : i < rv.length
    · rw [List.getElem?_append_left hi] at hv
      obtain ⟨g1, g2⟩ := h4 i v hv
      refine ⟨g1, ?_⟩
      rw [cell_ne (by omega)]
      exact g2
    · rw [List.getElem?_append_right (by omega)] at hv
      obtain ⟨hlt, hx⟩ := List.getElem?_eq_some_iff.1 hv
      simp at hlt
      have hil : i = rv.length := by omega
      subst hil
      simp at hx
      subst hx
      refine ⟨by omega, ?_⟩
      rw [show 21 - rv.length = n from by omega]
      exact cell_eq hv0

theorem Buf.congr {w w' : World} {B : Nat} {rv : List Int} (h : Buf w B rv) (hs : w'.heap.size = w.heap.size) (hc : ∀ j, w'.cell? ⟨B, j, none⟩ = w.cell? ⟨B, j, none⟩) (hf : ∀ j, w'.frozen? ⟨B, j, none⟩ = w.frozen? ⟨B, j, none⟩) : Buf w' B rv :=
  ⟨by rw [hs]; exact h.1, fun j hj => by rw [hc]; exact h.2.1 j hj, fun j => by rw [hf]; exact h.2.2.1 j, fun i v hv => ⟨(h.2.2.2 i v hv).1, by rw [hc]; exact (h.2.2.2 i v hv).2⟩⟩

/-- putPair's two stores. -/
theorem Buf.push2 {w w' : World} {B n : Nat} {rv : List Int} {x y : Int} (h : Buf w B rv) (hn : n + 2 + rv.length = 22)
    (ha : w' = ((w.setCell ⟨B, n, none⟩ (.int .u8 x)).setCell ⟨B, n + 1, none⟩ (.int .u8 y)).drew) : Buf w' B (rv ++ [y, x]) := by
  have h1 := (h.push (n := n + 1) (by omega) y).push (n := n) (by simp; omega) x
  rw [List.append_assoc] at h1
  subst ha
  refine Buf.alike (Buf.congr (w' := (w.setCell ⟨B, n, none⟩ (.int .u8 x)).setCell ⟨B, n + 1, none⟩ (.int .u8 y)) h1 (by simp) (fun j => ?_) (fun j => by simp)) ⟨rfl, rfl, rfl⟩
  obtain ⟨v0, hv0⟩ := h.2.1 n (by omega)
  obtain ⟨v1, hv1⟩ := h.2.1 (n + 1) (by omega)
  by_cases e0 : j = n
  · subst e0
    rw [cell_ne (by omega), cell_eq hv0, cell_eq (u := v0) (by rw [cell_ne (by omega)]; exact hv0)]
  · by_cases e1 : j = n + 1
    · subst e1
      rw [cell_eq (u := v1) (by rw [cell_ne (by omega)]; exact hv1), cell_ne (by omega), cell_eq hv1]
    · rw [cell_ne (by omega), cell_ne (by omega), cell_ne (by omega), cell_ne (by omega)]

end Go.Proofs.Qxb6618375a
