/-
  THE SMALL WALKS of the seat: zzPow10, zzDigits, zzIsDigit, zzPush, ZZNewDecimal, putPair; the number of digits.
-/
import Derived.Test.Qxb6618375aRows
import Derived.WalkKit
import Derived.WalkSpells
import Derived.WalkLawsBesides
namespace Go.Proofs.Qxb6618375a
open Go.RowKit
set_option linter.unusedVariables false

theorem pow_le {k s : Nat} (h : k ≤ s) : 10 ^ k ≤ 10 ^ s := Nat.pow_le_pow_right (by omega) h
theorem pow_pos' (k : Nat) : 0 < 10 ^ k := Nat.pow_pos (by omega)

/-- nd is the number of decimal digits of c. -/
def IsNd (c nd : Nat) : Prop := 1 ≤ nd ∧ c < 10 ^ nd ∧ (nd = 1 ∨ 10 ^ (nd - 1) ≤ c)

theorem IsNd.unique {c a b : Nat} (ha : IsNd c a) (hb : IsNd c b) : a = b := by
  have key : ∀ {a b : Nat}, IsNd c a → IsNd c b → a ≤ b := by
    intro a b ha hb
    by_cases h : a ≤ b
    · exact h
    · exfalso
      rcases ha.2.2 with h1 | h1
      · have := hb.1; omega
      · have := pow_le (show b ≤ a - 1 by omega)
        have := hb.2.1
        omega
  exact Nat.le_antisymm (key ha hb) (key hb ha)

theorem digits_more {n0 j : Nat} (h : 10 ≤ n0 / 10 ^ j) : n0 / 10 ^ j / 10 = n0 / 10 ^ (j + 1) := by
  rw [Nat.div_div_eq_div_mul, Nat.pow_succ]

theorem isNd_mk {n0 j : Nat} (h : n0 / 10 ^ j < 10) (h2 : j = 0 ∨ 1 ≤ n0 / 10 ^ j) : IsNd n0 (j + 1) := by
  have hp := pow_pos' j
  refine ⟨by omega, ?_, ?_⟩
  · rw [Nat.pow_succ]
    have := (Nat.div_lt_iff_lt_mul hp).1 h
    omega
  · rcases h2 with h2 | h2
    · left; omega
    · right
      have := (Nat.le_div_iff_mul_le hp).1 h2
      simpa using this

set_option maxHeartbeats 400000 in
theorem pow10_any (s p : Nat) (hs : s ≤ 19) (Hp : Hid (p = 10 ^ s)) (w : World) :
    Calls Try.prog 10 #[.int .u8 s] w fun e w' => e = .returned (.int .u64 p) ∧ w' = w := by
  go_enter Try.func10, Try.ntmps10
  go_wp2
  go_loop [3, 4] (fun p i => ∃ k : Nat, ∃ P : Nat, k ≤ s ∧ i = .int .u8 k ∧ p = .int .u64 P ∧ Hid (P = 10 ^ k)) (fun _ i => s - (intOf i).toNat)
  case atStart => exact ⟨0, 1, Nat.zero_le _, rfl, rfl, rfl⟩
  case round =>
    obtain ⟨k, P, hk, rfl, rfl, HP⟩ := hrel
    by_cases hlt : k < s
    · have hb : P ≤ 1000000000000000000 := by rw [HP.out]; exact pow_le (s := 18) (by omega)
      go_wp2
      go_round
      case rel => exact ⟨k + 1, P * 10, by omega, by go_num, by go_num, by unfold Hid; rw [HP.out, Nat.pow_succ]⟩
      case measure => simp [intOf]; omega
    · go_wp2
      go_ret
      obtain rfl : k = s := by omega
      have e : p = P := by rw [HP.out, Hp.out]
      subst e
      exact ⟨rfl, rfl⟩

set_option maxHeartbeats 400000 in
theorem digits_any (n0 nd : Nat) (h : n0 < 10000000000000000000) (hnd : IsNd n0 nd) (w : World) :
    Calls Try.prog 9 #[.int .u64 n0] w fun e w' => e = .returned (.int .i64 nd) ∧ w' = w := by
  have H0 : Hid (IsNd n0 nd) := hnd
  clear hnd
  go_enter Try.func9, Try.ntmps9
  go_wp2
  go_loop [0, 3] (fun n c => ∃ j N : Nat, n = .int .u64 N ∧ c = .int .i64 (j + 1 : Nat) ∧ N ≤ 10000000000000000000 ∧ j ≤ 19 ∧ Hid (N = n0 / 10 ^ j ∧ (j = 0 ∨ 1 ≤ N))) (fun n _ => (intOf n).toNat)
  case atStart => exact ⟨0, n0, rfl, rfl, by omega, by omega, by simp [Hid]⟩
  case round =>
    obtain ⟨j, N, rfl, rfl, hN, hj, HN⟩ := hrel
    by_cases hlt : 10 ≤ N
    · have hj2 : j < 19 := by
        by_cases hj' : j < 19
        · exact hj'
        · exfalso
          have h1 := HN.out.1
          have h2 : n0 / 10 ^ j = 0 := Nat.div_eq_of_lt (Nat.lt_of_lt_of_le h (pow_le (k := 19) (by omega)))
          omega
      go_wp2
      go_round
      case rel => exact ⟨j + 1, N / 10, by go_num, by go_num, by omega, by omega, by
        obtain ⟨h1, h2⟩ := HN.out
        refine ⟨?_, .inr (by omega)⟩
        rw [h1, Nat.div_div_eq_div_mul, ← Nat.pow_succ]⟩
      case measure => simp [intOf]; omega
    · go_wp2
      go_ret
      obtain ⟨h1, h2⟩ := HN.out
      have := isNd_mk (n0 := n0) (j := j) (by omega) (by omega)
      rw [H0.out.unique this]
      exact ⟨rfl, rfl⟩

theorem ret_tuple {a b : Int} {x : Bool} (h : a = b) : Ending.returned (.tuple #[.int .u64 a, .bool x]) = .returned (.tuple #[.int .u64 b, .bool x]) := by rw [h]

set_option maxHeartbeats 400000 in
theorem isDigit_yes (c : Int) (h0 : 48 ≤ c) (h1 : c ≤ 57) (w : World) :
    Calls Try.prog 13 #[.int .u8 c] w fun e w' => e = .returned (.bool true) ∧ w' = w := by
  go_enter Try.func13, Try.ntmps13
  go_wp2
  go_ret
  exact ⟨rfl, rfl⟩

set_option maxHeartbeats 400000 in
theorem isDigit_dot (w : World) :
    Calls Try.prog 13 #[.int .u8 46] w fun e w' => e = .returned (.bool false) ∧ w' = w := by
  go_enter Try.func13, Try.ntmps13
  go_wp2
  go_ret
  exact ⟨rfl, rfl⟩

set_option maxHeartbeats 400000 in
theorem push_any (v x : Int) (h0 : 0 ≤ v) (h1 : v ≤ 999999999999999999) (hd0 : 48 ≤ x) (hd : x ≤ 57) (w : World) :
    Calls Try.prog 14 #[.int .u64 v, .int .u8 x] w fun e w' => e = .returned (.tuple #[.int .u64 (v * 10 + (x - 48)), .bool true]) ∧ w' = w := by
  go_enter Try.func14, Try.ntmps14
  go_wp2
  go_ret2
  exact ⟨rfl, rfl⟩

set_option maxHeartbeats 400000 in
theorem new_any (c s : Int) (n : Bool) (w : World) :
    Calls Try.prog 5 #[.int .u64 c, .int .u8 s, .bool n] w fun e w' => e = .returned (.agg #[.int .u64 c, .int .u8 s, .bool n]) ∧ Below w.heap.size w w' := by
  go_enter Try.func5, Try.ntmps5
  go_wp2
  refine bodyPost_ret (v := .agg #[.int .u64 c, .int .u8 s, .bool n]) (by simp [results, Try.results5, go_sem]) rfl ⟨rfl, ?_⟩
  exact (Below.refl _ _).alloc (Nat.le_refl _) _

/-- digitPairs: the two digits of every number below 100. -/
def pairs : ByteArray := ⟨#[48, 48, 48, 49, 48, 50, 48, 51, 48, 52, 48, 53, 48, 54, 48, 55, 48, 56, 48, 57, 49, 48, 49, 49, 49, 50, 49, 51, 49, 52, 49, 53, 49, 54, 49, 55, 49, 56, 49, 57, 50, 48, 50, 49, 50, 50, 50, 51, 50, 52, 50, 53, 50, 54, 50, 55, 50, 56, 50, 57, 51, 48, 51, 49, 51, 50, 51, 51, 51, 52, 51, 53, 51, 54, 51, 55, 51, 56, 51, 57, 52, 48, 52, 49, 52, 50, 52, 51, 52, 52, 52, 53, 52, 54, 52, 55, 52, 56, 52, 57, 53, 48, 53, 49, 53, 50, 53, 51, 53, 52, 53, 53, 53, 54, 53, 55, 53, 56, 53, 57, 54, 48, 54, 49, 54, 50, 54, 51, 54, 52, 54, 53, 54, 54, 54, 55, 54, 56, 54, 57, 55, 48, 55, 49, 55, 50, 55, 51, 55, 52, 55, 53, 55, 54, 55, 55, 55, 56, 55, 57, 56, 48, 56, 49, 56, 50, 56, 51, 56, 52, 56, 53, 56, 54, 56, 55, 56, 56, 56, 57, 57, 48, 57, 49, 57, 50, 57, 51, 57, 52, 57, 53, 57, 54, 57, 55, 57, 56, 57, 57]⟩
theorem pairs_size : pairs.size = 200 := by decide +kernel
theorem pairs_all : ∀ n : Fin 100, (pairs.data.getD (2 * n.1) 0).toNat = 48 + n.1 / 10 ∧ (pairs.data.getD (2 * n.1 + 1) 0).toNat = 48 + n.1 % 10 := by decide +kernel
theorem pairs_hi (n : Nat) (h : n < 100) (hp : 2 * n < pairs.size) : ((pairs[2 * n]'hp).toNat : Int) = 48 + (n : Int) / 10 := by
  have this : (pairs.data.getD (2 * n) 0).toNat = 48 + n / 10 := (pairs_all ⟨n, h⟩).1
  have e : pairs.data.getD (2 * n) 0 = pairs[2 * n]'hp := by
    have hp' : 2 * n < pairs.data.size := hp
    simp only [Array.getD, hp', dif_pos]
    rfl
  rw [e] at this
  omega
theorem pairs_lo (n : Nat) (h : n < 100) (hp : 2 * n + 1 < pairs.size) : ((pairs[2 * n + 1]'hp).toNat : Int) = 48 + (n : Int) % 10 := by
  have this : (pairs.data.getD (2 * n + 1) 0).toNat = 48 + n % 10 := (pairs_all ⟨n, h⟩).2
  have e : pairs.data.getD (2 * n + 1) 0 = pairs[2 * n + 1]'hp := by
    have hp' : 2 * n + 1 < pairs.data.size := hp
    simp only [Array.getD, hp', dif_pos]
    rfl
  rw [e] at this
  omega

theorem eq_two {w : World} {p q : Addr} {x y x' y' : Int} (hx : x = x') (hy : y = y') : ((w.setCell p (.int .u8 x)).setCell q (.int .u8 y)).drew = ((w.setCell p (.int .u8 x')).setCell q (.int .u8 y')).drew := by
  subst hx; subst hy; rfl

set_option maxRecDepth 100000 in
set_option maxHeartbeats 1000000 in
theorem putPair_any (B i : Nat) (n : Nat) (w : World) (hi : i + 1 < 22) (hn : n < 100) (v0 v1 : Value) (c0 : w.cell? ⟨B, i, none⟩ = some v0) (c1 : w.cell? ⟨B, i + 1, none⟩ = some v1) (f0 : w.frozen? ⟨B, i, none⟩ = false) (f1 : w.frozen? ⟨B, i + 1, none⟩ = false) :
    Calls Try.prog 16 #[.pointer (some ⟨B, 0, none⟩), .int .i64 i, .int .u64 n] w fun e w' => e = .returned (.tuple #[]) ∧ w' = ((w.setCell ⟨B, i, none⟩ (.int .u8 (48 + n / 10))).setCell ⟨B, i + 1, none⟩ (.int .u8 (48 + n % 10))).drew := by
  have hi1 : (i : Int) < 22 := by omega
  have hi2 : (i : Int) + 1 < 22 := by omega
  have hn0 : (0 : Int) ≤ 2 * (n : Int) := by omega
  have hn1 : 2 * (n : Int) < 200 := by omega
  have hn2 : 2 * (n : Int) + 1 < 200 := by omega
  have hn3 : (0 : Int) ≤ 2 * (n : Int) + 1 := by omega
  go_enter Try.func16, Try.ntmps16
  go_wp2
  go_region
  go_end0
  exact ⟨rfl, eq_two (pairs_hi n hn (by rw [pairs_size]; omega)) (pairs_lo n hn (by rw [pairs_size]; omega))⟩

end Go.Proofs.Qxb6618375a
