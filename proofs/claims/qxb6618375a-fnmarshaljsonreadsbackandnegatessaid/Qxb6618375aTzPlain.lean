/-
  THE PLAIN LAW: one scale finer, one zero more.
-/
import Derived.Test.Qxb6618375aRead
namespace Go.Proofs.Qxb6618375a
open Go.RowKit

theorem dig_ten_zero (c : Nat) : dig (c * 10) 0 = 48 := by unfold dig; simp
theorem dig_ten_succ (c i : Nat) : dig (c * 10) (i + 1) = dig c i := by
  unfold dig
  rw [Nat.pow_succ, Nat.mul_comm (10 ^ i) 10, ← Nat.div_div_eq_div_mul, Nat.mul_div_cancel _ (by omega)]
theorem frac_ten (c s : Nat) : frac (c * 10) (s + 1) = 48 :: frac c s := by
  unfold frac
  rw [List.range_succ_eq_map, List.map_cons, List.map_map, dig_ten_zero]
  congr 1
  refine List.map_congr_left fun i _ => ?_
  exact dig_ten_succ c i
theorem ints_ten (c s nd : Nat) : (List.range nd).map (fun t => dig (c * 10) (s + 1 + t)) = (List.range nd).map (fun t => dig c (s + t)) := by
  refine List.map_congr_left fun t _ => ?_
  rw [show s + 1 + t = (s + t) + 1 from by omega]
  exact dig_ten_succ c (s + t)

theorem rev_ten_pos (c s nd : Nat) (neg : Bool) (hs : 0 < s) : rev (c * 10) (s + 1) nd neg = 48 :: rev c s nd neg := by
  unfold rev body
  rw [frac_ten, ints_ten]
  simp [show ¬ s = 0 from by omega]
theorem rev_ten_zero (c nd : Nat) (neg : Bool) : rev (c * 10) (0 + 1) nd neg = 48 :: 46 :: rev c 0 nd neg := by
  unfold rev body
  rw [frac_ten, ints_ten]
  simp [frac]

theorem quoted_cons (rv : List Int) : quoted rv = (34 :: rv.reverse) ++ [34] := by simp [quoted]
theorem quoted_one (rv : List Int) : quoted (48 :: rv) = (34 :: rv.reverse) ++ [48, 34] := by simp [quoted]
theorem quoted_two (rv : List Int) : quoted (48 :: 46 :: rv) = (34 :: rv.reverse) ++ [46, 48, 34] := by simp [quoted]

theorem rev_len (c s nd : Nat) (neg : Bool) : (rev c s nd neg).length = s + dt s + nd + (if neg then 1 else 0) := by
  unfold rev
  rw [List.length_append, body_len']
  cases neg <;> simp

/-- The text's last byte is the coefficient's last digit. -/
theorem rev_head (c s nd : Nat) (neg : Bool) (hnd : 1 ≤ nd) : (rev c s nd neg)[0]? = some (dig c 0) := by
  obtain ⟨m, rfl⟩ : ∃ m, nd = m + 1 := ⟨nd - 1, by omega⟩
  unfold rev body frac
  by_cases hs : s = 0
  · subst hs
    simp [List.range_succ_eq_map]
  · obtain ⟨k, rfl⟩ : ∃ k, s = k + 1 := ⟨s - 1, by omega⟩
    simp [List.range_succ_eq_map]

theorem quoted_last {rv : List Int} {x : Int} (h : rv[0]? = some x) : (quoted rv)[rv.length]? = some x := by
  obtain ⟨y, t, rfl⟩ : ∃ y t, rv = y :: t := by
    cases rv with
    | nil => simp at h
    | cons y t => exact ⟨y, t, rfl⟩
  simp at h
  subst h
  simp [quoted]

theorem div_ten (c s : Nat) : c * 10 / 10 ^ (s + 1) = c / 10 ^ s := by
  rw [Nat.pow_succ, Nat.mul_comm (10 ^ s) 10, ← Nat.div_div_eq_div_mul, Nat.mul_div_cancel _ (by omega)]

theorem isNd_ex (c : Nat) (h : c < 10000000000000000000) : ∃ nd, IsNd c nd := by
  have key : ∀ (j : Nat), c < 10 ^ (j + 1) → ∃ nd, IsNd c nd := by
    intro j
    induction j with
    | zero => intro hj; exact ⟨1, by omega, by simpa using hj, .inl rfl⟩
    | succ j ih =>
      intro hj
      by_cases hlt : c < 10 ^ (j + 1)
      · exact ih hlt
      · exact ⟨j + 2, by omega, hj, .inr (by simpa using hlt)⟩
  exact key 18 h

end Go.Proofs.Qxb6618375a
