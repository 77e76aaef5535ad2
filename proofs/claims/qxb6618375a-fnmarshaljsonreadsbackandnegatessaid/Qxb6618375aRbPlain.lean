/-
  THE PLAIN FACTS FOR READING A TEXT BACK: where each byte of the quoted text stands, and what is read so far.
-/
import Derived.Test.Qxb6618375aTzPlain
namespace Go.Proofs.Qxb6618375a
open Go.RowKit

theorem quoted_at {rv : List Int} {j : Nat} {x : Int} (hj : j < rv.length) (h : rv[rv.length - 1 - j]? = some x) : (quoted rv)[1 + j]? = some x := by
  unfold quoted
  rw [Nat.add_comm, List.cons_append, List.getElem?_cons_succ, List.getElem?_append_left (by simpa using hj), List.getElem?_reverse hj]
  exact h
theorem quoted_first (rv : List Int) : (quoted rv)[0]? = some 34 := rfl
theorem quoted_end (rv : List Int) : (quoted rv)[rv.length + 1]? = some 34 := by simp [quoted]

theorem rev_frac {c s nd : Nat} {neg : Bool} {i : Nat} (h : i < s) : (rev c s nd neg)[i]? = some (dig c i) := by
  unfold rev body
  rw [List.append_assoc, List.append_assoc, List.getElem?_append_left (by rw [frac_len]; exact h)]
  simp [frac, h]
theorem rev_dot {c s nd : Nat} {neg : Bool} (h : 0 < s) : (rev c s nd neg)[s]? = some 46 := by
  unfold rev body
  rw [List.append_assoc, List.append_assoc, List.getElem?_append_right (by rw [frac_len]; exact Nat.le_refl _), frac_len]
  simp [show ¬ s = 0 from by omega]
theorem rev_int {c s nd : Nat} {neg : Bool} {t : Nat} (h : t < nd) : (rev c s nd neg)[s + dt s + t]? = some (dig c (s + t)) := by
  have hb : (body c s 0).length = s + dt s := by rw [body_len']; omega
  have e : rev c s nd neg = body c s 0 ++ ((List.range nd).map (fun t => dig c (s + t)) ++ (if neg then [45] else [])) := by
    rw [body_zero]; simp [rev, body]
  rw [e, List.getElem?_append_right (by omega), hb, show s + dt s + t - (s + dt s) = t from by omega, List.getElem?_append_left (by simpa using h)]
  simp [h]
theorem rev_sign {c s nd : Nat} : (rev c s nd true)[s + dt s + nd]? = some 45 := by
  unfold rev
  rw [List.getElem?_append_right (by rw [body_len']; exact Nat.le_refl _), body_len']
  simp

/-- The sign's length. -/
def ng (neg : Bool) : Nat := if neg then 1 else 0
theorem rev_len' (c s nd : Nat) (neg : Bool) : (rev c s nd neg).length = s + dt s + nd + ng neg := rev_len c s nd neg

/-- WHERE THE BYTES STAND. -/
theorem at_int {c s nd : Nat} {neg : Bool} {q : Nat} (h : q < nd) : (quoted (rev c s nd neg))[1 + ng neg + q]? = some (dig c (s + (nd - 1 - q))) := by
  rw [Nat.add_assoc]
  refine quoted_at (by rw [rev_len']; omega) ?_
  rw [rev_len', show s + dt s + nd + ng neg - 1 - (ng neg + q) = s + dt s + (nd - 1 - q) from by omega]
  exact rev_int (by omega)
theorem at_dot {c s nd : Nat} {neg : Bool} (hs : 0 < s) : (quoted (rev c s nd neg))[1 + ng neg + nd]? = some 46 := by
  have hd : dt s = 1 := by simp [dt, show ¬ s = 0 from by omega]
  rw [Nat.add_assoc]
  refine quoted_at (by rw [rev_len']; omega) ?_
  rw [rev_len', hd, show s + 1 + nd + ng neg - 1 - (ng neg + nd) = s from by omega]
  exact rev_dot hs
theorem at_frac {c s nd : Nat} {neg : Bool} {q : Nat} (h : q < s) : (quoted (rev c s nd neg))[1 + ng neg + nd + 1 + q]? = some (dig c (s - 1 - q)) := by
  have hd : dt s = 1 := by simp [dt, show ¬ s = 0 from by omega]
  rw [show 1 + ng neg + nd + 1 + q = 1 + (ng neg + nd + 1 + q) from by omega]
  refine quoted_at (by rw [rev_len']; omega) ?_
  rw [rev_len', hd, show s + 1 + nd + ng neg - 1 - (ng neg + nd + 1 + q) = s - 1 - q from by omega]
  exact rev_frac (by omega)
theorem at_sign {c s nd : Nat} : (quoted (rev c s nd true))[1]? = some 45 := by
  refine quoted_at (j := 0) (by rw [rev_len']; simp [ng]) ?_
  rw [rev_len', show s + dt s + nd + ng true - 1 - 0 = s + dt s + nd from by simp [ng]]
  exact rev_sign

/-- One digit more. -/
theorem push_next {c m V : Nat} (hV : V = c / 10 ^ (m + 1)) : V * 10 + (dig c m - 48).toNat = c / 10 ^ m := by
  have e : (dig c m - 48).toNat = c / 10 ^ m % 10 := by unfold dig; omega
  have e2 : V = c / 10 ^ m / 10 := by rw [hV, Nat.div_div_eq_div_mul, ← Nat.pow_succ]
  rw [e, e2]
  omega
/-- .. in Int's form. -/
theorem push_int {c m V : Nat} (hV : V = c / 10 ^ (m + 1)) : (V : Int) * 10 + (dig c m - 48) = ((c / 10 ^ m : Nat) : Int) := by
  have := push_next hV
  have := dig_lo c m
  omega
theorem push_room {c m V : Nat} (hc : c ≤ 9999999999999999999) (hV : V = c / 10 ^ (m + 1)) : V ≤ 999999999999999999 := by
  have h1 := push_next hV
  have h2 : c / 10 ^ m ≤ c := Nat.div_le_self _ _
  omega

/-- The first digit of a number of more than one digit is no zero. -/
theorem lead_digit {c s nd : Nat} (h : IsNd (c / 10 ^ s) nd) (h1 : 1 < nd) : 49 ≤ dig c (s + (nd - 1 - 0)) := by
  unfold dig
  have e : c / 10 ^ (s + (nd - 1 - 0)) = c / 10 ^ s / 10 ^ (nd - 1) := by rw [Nat.pow_add, Nat.div_div_eq_div_mul]; rfl
  rw [e]
  rcases h.2.2 with h2 | h2
  · omega
  · have h3 : 1 ≤ c / 10 ^ s / 10 ^ (nd - 1) := (Nat.le_div_iff_mul_le (pow_pos' _)).2 (by omega)
    have h4 : c / 10 ^ s / 10 ^ (nd - 1) < 10 := (Nat.div_lt_iff_lt_mul (pow_pos' _)).2 (by
      have h5 := h.2.1
      rw [show nd = (nd - 1) + 1 from by omega, Nat.pow_succ] at h5
      omega)
    omega

end Go.Proofs.Qxb6618375a
