/-
  WHAT BOTH LAWS SHARE: a copy of a slice of bytes; plain facts on the run of alike bytes.
-/
import Derived.Test.Qxb6618418aMake
import Derived.Laws.CopyOwn
import Derived.Deep.CutBlock
import Derived.Deep.DeepCutAuto
namespace Go.Proofs.Qxb6618418a
open Go.RowKit
set_option linter.unusedVariables false

/-- What a law comes to: true, and nothing that was there has turned. -/
def LawPost (w : World) (e : Ending) (w' : World) : Prop := e = .returned (.bool true) ∧ Below w.heap.size w w'

theorem Try.size5 : (Try.prog.info? 5).map (·.size) = some 1 := by kernel_rfl

theorem own_cells {w1 : World} {B n : Nat} {xs : List Value} (h : w1.ownsRow B 5 1 (.slice (some ⟨B, 0, none⟩) n n) n xs) : ∃ cur : List Value, w1.heap[B]? = some (.cells cur.toArray 5 (0, 0)) ∧ cur.length = n := by
  rcases h.2 with ⟨h', _⟩ | ⟨g', cap', cur, h', _, hg, _, _, hs, _⟩
  · simp at h'
  · simp only [Value.slice.injEq, Option.some.injEq, Addr.mk.injEq, and_true, true_and] at h'
    obtain ⟨rfl, rfl⟩ := h'
    exact ⟨cur.toList, by simpa using hg, by simpa using hs⟩

theorem bytes_one (l : List Int) : ∀ u ∈ l.map (Value.int .u8), u.oneCell' = true := by
  intro u hu
  obtain ⟨x, _, rfl⟩ := List.mem_map.1 hu
  rfl

/-- The source's cells, where a copy looks for them. -/
theorem src_cells {w w1 : World} {x : Addr} {n : Nat} {zs : List Int} (h : IsS w (some x) n zs) (hb : Below w.heap.size w w1) (dp : Option Addr) (hpos : 0 < (zs.map (Value.int .u8)).length) :
    dp = dp ∧ ∃ ad, some x = some ad ∧ ∀ j v, (zs.map (Value.int .u8))[j]? = some v → w1.cell? (ad.add j) = some v := by
  refine ⟨rfl, x, rfl, fun j v hv => ?_⟩
  have hl : 0 < n := by rw [← h.1]; simpa using hpos
  obtain ⟨b, off, hx, hB, hR⟩ := h.2.1 hl
  injection hx with hx
  subst hx
  rw [List.getElem?_map] at hv
  obtain ⟨z, hz, rfl⟩ := Option.map_eq_some_iff.1 hv
  obtain ⟨hj, rfl⟩ := List.getElem?_eq_some_iff.1 hz
  have e : (⟨b, off, none⟩ : Addr).add j = ⟨b, off + j, none⟩ := by cases j <;> simp [Addr.add]
  rw [e, hb.cell (p := ⟨b, off + j, none⟩) hB]
  exact hR j hj

/-- Behind the copy: a slice of the same bytes in the new row. -/
theorem copied {w2 : World} {B n : Nat} {zs : List Int} {cur : List Value} (H : Hid (w2.heap[B]? = some (.cells (splice cur 0 (zs.map (Value.int .u8))).toArray 5 (0, 0)))) (hc : cur.length = n) (hz : zs.length = n) (hb : ∀ z ∈ zs, 0 ≤ z ∧ z ≤ 255) : IsS w2 (some ⟨B, 0, none⟩) n zs := by
  have e : splice cur 0 (zs.map (Value.int .u8)) = zs.map (Value.int .u8) := by
    have hd : cur.drop zs.length = [] := List.drop_of_length_le (by omega)
    simp [splice, hd]
  have h := H.out
  rw [e] at h
  refine ⟨hz, fun _ => ⟨B, 0, rfl, (Array.getElem?_eq_some_iff.1 h).1, fun i hi => ?_⟩, hb⟩
  rw [cell_of_row w2 B _ _ _ _ h]
  simp [hi]

theorem alikeB_symm (x y : Int) : alikeB x y = alikeB y x := by
  unfold alikeB
  rw [show (x == y) = (y == x) from by rw [Bool.eq_iff_iff]; simp; exact ⟨Eq.symm, Eq.symm⟩, Bool.and_comm]
theorem run_symm (xs : List Int) : ∀ ys, run xs ys = run ys xs := by
  induction xs with
  | nil => intro ys; cases ys <;> rfl
  | cons x xs ih =>
    intro ys
    cases ys with
    | nil => rfl
    | cons y ys => simp only [run, alikeB_symm x y, ih ys]
theorem ss_symm (xs ys : List Int) : ss xs ys = ss ys xs := by unfold ss; rw [run_symm]
theorem run_self (xs : List Int) : run xs xs = xs.length := by
  induction xs with
  | nil => rfl
  | cons x xs ih =>
    have h : alikeB x x = true := by simp [alikeB]
    simp [run, h, ih]
theorem alikeB_zd (x y : Int) : alikeB (zd x) (zd y) = alikeB x y := by
  have key : ∀ z : Int, digB z = false → z ≠ 48 := fun z hz e => by subst e; simp [digB] at hz
  unfold zd
  cases hx : digB x <;> cases hy : digB y
  · simp
  · have h1 := key x hx
    have h2 : x ≠ y := fun e => by subst e; rw [hx] at hy; cases hy
    have e1 : (x == 48) = false := beq_eq_false_iff_ne.2 h1
    have e2 : (x == y) = false := beq_eq_false_iff_ne.2 h2
    simp [alikeB, hx, e1, e2]
  · have h1 := key y hy
    have h2 : x ≠ y := fun e => by subst e; rw [hx] at hy; cases hy
    have e1 : ((48 : Int) == y) = false := beq_eq_false_iff_ne.2 (fun e => h1 e.symm)
    have e2 : (x == y) = false := beq_eq_false_iff_ne.2 h2
    simp [alikeB, hy, e1, e2]
  · simp [alikeB, hx, hy]
theorem run_zd (xs : List Int) : ∀ ys, run (xs.map zd) (ys.map zd) = run xs ys := by
  induction xs with
  | nil => intro ys; cases ys <;> rfl
  | cons x xs ih =>
    intro ys
    cases ys with
    | nil => rfl
    | cons y ys => simp only [List.map_cons, run, alikeB_zd, ih ys]
theorem ss_zd (xs ys : List Int) : ss (xs.map zd) (ys.map zd) = ss xs ys := by unfold ss; rw [run_zd]

/-- sameStart, its answer under a name. -/
theorem zz_is (R : Nat) (a : Option Addr) (la ca : Nat) (zs : List Int) (b : Option Addr) (lb cb : Nat) (ys : List Int) (w : World) (hR : ss zs ys = R) (hla : la ≤ 1048580) (hlb : lb ≤ 1048580) (hz : IsS w a la zs) (hy : IsS w b lb ys) :
    Calls Try.prog 6 #[.slice a la ca, .slice b lb cb] w fun e w' => e = .returned (.int .i64 R) ∧ ∃ t, w' = w.drewN t := by
  rw [← hR]; exact zz_same a la ca zs b lb cb ys w hla hlb hz hy

end Go.Proofs.Qxb6618418a
