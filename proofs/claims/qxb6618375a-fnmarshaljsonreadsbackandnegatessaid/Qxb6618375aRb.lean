/-
  THE WALK OF zzReadsBack at the text of a decimal: it answers true.
-/
import Derived.Test.Qxb6618375aRbPlain
namespace Go.Proofs.Qxb6618375a
open Go.RowKit
set_option linter.unusedVariables false

theorem bool_ret {w : World} : (Ending.returned (.bool true) = Ending.returned (.bool true)) ∧ w = w := ⟨rfl, rfl⟩

set_option maxRecDepth 100000 in
set_option maxHeartbeats 2000000 in
theorem rb_zero_false (G coef nd n : Nat) (w : World) (hc : coef ≤ 9999999999999999999) (Hnd : Hid (IsNd (coef / 10 ^ 0) nd)) (hn : 1 + 0 + nd + 1 = n) (hnd1 : 1 ≤ nd) (hnd2 : nd ≤ 21) (HT : Hid (IsB w G (quoted (rev coef 0 nd false)))) :
    Calls Try.prog 7 #[.slice (some ⟨G, 0, none⟩) n n, .int .u64 coef, .int .u8 0, .bool false] w fun e w' => e = .returned (.bool true) ∧ w' = w := by
  have a0 := HT.out.at (quoted_first _)
  have aE := HT.out.at (quoted_end _)
  rw [rev_len', show 0 + dt 0 + nd + ng false + 1 = n - 1 from by simp [dt, ng]; omega] at aE
  have aD : w.cell? ⟨G, 1 + 0, none⟩ = _ := HT.out.at (at_int (q := 0) (by omega))
  have hd0 := dig_lo coef (0 + (nd - 1 - 0))
  have hd1 := dig_hi coef (0 + (nd - 1 - 0))
  have hlead : Hid (1 < nd → 49 ≤ dig coef (0 + (nd - 1 - 0))) := fun h => lead_digit Hnd.out h
  generalize dig coef (0 + (nd - 1 - 0)) = x0 at *
  have x45 : (x0 == 45) = false := beq_eq_false_iff_ne.2 (by omega)
  obtain ⟨m, rfl⟩ : ∃ m, n = m + 1 := ⟨n - 1, by omega⟩
  simp only [Nat.add_sub_cancel] at aE
  have hm : m ≤ 40 := by omega
  have hm3 : 2 ≤ (m : Int) := by omega
  have Hn : Hid (1 + 0 + nd = m) := by unfold Hid; omega
  clear hn
  go_enter Try.func7, Try.ntmps7
  go_wp2
  go_loop [11, 14] (fun i v => ∃ k q V : Nat, i = .int .i64 k ∧ v = .int .u64 V ∧ q ≤ nd ∧ k ≤ 40 ∧ Hid (k = 1 + 0 + q ∧ V = coef / 10 ^ (nd - q))) (fun i _ => m - (intOf i).toNat)
  case atStart =>
    refine ⟨1 + 0, 0, 0, rfl, rfl, Nat.zero_le _, by omega, rfl, ?_⟩
    have := Hnd.out.2.1
    simp at this
    exact (Nat.div_eq_of_lt (by simpa using this)).symm
  case round =>
    obtain ⟨k, q, V, rfl, rfl, hq, hk, HK⟩ := hrel
    by_cases hlt : q < nd
    · have hkm : k < m := by have := HK.out.1; have := Hn.out; omega
      have e : coef / 10 ^ (nd - q) = coef / 10 ^ ((nd - 1 - q) + 1) := by rw [show nd - q = nd - 1 - q + 1 from by omega]
      have hroom := push_room (V := V) hc (by rw [HK.out.2, e])
      have hpush := push_int (V := V) (by rw [HK.out.2, e])
      have cx := HT.out.at (at_int (neg := false) (s := 0) (q := q) hlt)
      rw [show 1 + ng false + q = k from by rw [HK.out.1]; simp [ng], Nat.zero_add] at cx
      have y0 := dig_lo coef (nd - 1 - q)
      have y1 := dig_hi coef (nd - 1 - q)
      generalize dig coef (nd - 1 - q) = x at *
      have HP : Hid ((V : Int) * 10 + (x - 48) = ((coef / 10 ^ (nd - 1 - q) : Nat) : Int)) := hpush
      clear hpush e
      go_wp2_with fail
      refine (isDigit_yes x y0 y1 w).mono ?_
      rintro e w1 ⟨rfl, hw1⟩
      subst w1
      go_wp2_with fail
      refine (push_any V x (by omega) (by omega) y0 y1 w).mono ?_
      rintro e w1 ⟨rfl, hw1⟩
      subst w1
      rw [HP.out]
      go_wp2
      go_round
      case rel => exact ⟨k + 1, q + 1, _, by go_num, rfl, by omega, by omega, by have := HK.out.1; omega, by rw [show nd - (q + 1) = nd - 1 - q from by omega]⟩
      case measure => simp [intOf]; omega
    · have hkm : k = m := by have := HK.out.1; have := Hn.out; omega
      subst hkm
      obtain rfl : q = nd := by omega
      have hV : V = coef := by rw [HK.out.2]; simp
      subst hV
      by_cases hn1 : 1 < q
      · have hl := hlead.out hn1
        have x48 : (x0 == 48) = false := beq_eq_false_iff_ne.2 (by omega)
        have hil : (1 : Int) < (k : Int) - (1 + 0) := by have := Hn.out; omega
        have hil0 : (((k : Int) - (1 + 0)) == 0) = false := beq_eq_false_iff_ne.2 (by omega)
        go_wp2
        go_ret
        exact ⟨rfl, rfl⟩
      · have hil : ¬ (1 : Int) < (k : Int) - (1 + 0) := by have := Hn.out; omega
        have hil0 : (((k : Int) - (1 + 0)) == 0) = false := beq_eq_false_iff_ne.2 (by have := Hn.out; omega)
        go_wp2
        go_ret
        exact ⟨rfl, rfl⟩

set_option maxRecDepth 100000 in
set_option maxHeartbeats 2000000 in
theorem rb_pos_false (G coef s nd n : Nat) (w : World) (hc : coef ≤ 9999999999999999999) (hs : 0 < s) (hs2 : s ≤ 19) (Hnd : Hid (IsNd (coef / 10 ^ s) nd)) (hn : 1 + 0 + nd + 1 + s + 1 = n) (hnd1 : 1 ≤ nd) (hnd2 : nd ≤ 21) (HT : Hid (IsB w G (quoted (rev coef s nd false)))) :
    Calls Try.prog 7 #[.slice (some ⟨G, 0, none⟩) n n, .int .u64 coef, .int .u8 s, .bool false] w fun e w' => e = .returned (.bool true) ∧ w' = w := by
  have a0 := HT.out.at (quoted_first _)
  have aE := HT.out.at (quoted_end _)
  rw [rev_len', show s + dt s + nd + ng false + 1 = n - 1 from by simp [dt, ng, show ¬ s = 0 from by omega]; omega] at aE
  have aD : w.cell? ⟨G, 1 + 0, none⟩ = _ := HT.out.at (at_int (q := 0) (by omega))
  have hd0 := dig_lo coef (s + (nd - 1 - 0))
  have hd1 := dig_hi coef (s + (nd - 1 - 0))
  have hlead : Hid (1 < nd → 49 ≤ dig coef (s + (nd - 1 - 0))) := fun h => lead_digit Hnd.out h
  generalize dig coef (s + (nd - 1 - 0)) = x0 at *
  have x45 : (x0 == 45) = false := beq_eq_false_iff_ne.2 (by omega)
  obtain ⟨m, rfl⟩ : ∃ m, n = m + 1 := ⟨n - 1, by omega⟩
  simp only [Nat.add_sub_cancel] at aE
  have hm : m ≤ 50 := by omega
  have hm3 : 2 ≤ (m : Int) := by omega
  have Hn : Hid (1 + 0 + nd + 1 + s = m) := by unfold Hid; omega
  clear hn
  go_enter Try.func7, Try.ntmps7
  go_wp2
  go_loop [11, 14] (fun i v => ∃ k q V : Nat, i = .int .i64 k ∧ v = .int .u64 V ∧ q ≤ nd ∧ k ≤ 50 ∧ Hid (k = 1 + 0 + q ∧ V = coef / 10 ^ (s + (nd - q)))) (fun i _ => m - (intOf i).toNat)
  case atStart =>
    refine ⟨1 + 0, 0, 0, rfl, rfl, Nat.zero_le _, by omega, rfl, ?_⟩
    have h := Hnd.out.2.1
    rw [Nat.pow_add, ← Nat.div_div_eq_div_mul]
    exact (Nat.div_eq_of_lt h).symm
  case round =>
    obtain ⟨k, q, V, rfl, rfl, hq, hk, HK⟩ := hrel
    by_cases hlt : q < nd
    · have hkm : k < m := by have := HK.out.1; have := Hn.out; omega
      have e : coef / 10 ^ (s + (nd - q)) = coef / 10 ^ ((s + (nd - 1 - q)) + 1) := by rw [show s + (nd - q) = s + (nd - 1 - q) + 1 from by omega]
      have hroom := push_room (V := V) hc (by rw [HK.out.2, e])
      have hpush := push_int (V := V) (by rw [HK.out.2, e])
      have cx := HT.out.at (at_int (neg := false) (s := s) (q := q) hlt)
      rw [show 1 + ng false + q = k from by rw [HK.out.1]; simp [ng]] at cx
      have y0 := dig_lo coef (s + (nd - 1 - q))
      have y1 := dig_hi coef (s + (nd - 1 - q))
      generalize dig coef (s + (nd - 1 - q)) = x at *
      have HP : Hid ((V : Int) * 10 + (x - 48) = ((coef / 10 ^ (s + (nd - 1 - q)) : Nat) : Int)) := hpush
      clear hpush e
      go_wp2_with fail
      refine (isDigit_yes x y0 y1 w).mono ?_
      rintro e w1 ⟨rfl, hw1⟩
      subst w1
      go_wp2_with fail
      refine (push_any V x (by omega) (by omega) y0 y1 w).mono ?_
      rintro e w1 ⟨rfl, hw1⟩
      subst w1
      rw [HP.out]
      go_wp2
      go_round
      case rel => exact ⟨k + 1, q + 1, _, by go_num, rfl, by omega, by omega, by have := HK.out.1; omega, by rw [show s + (nd - (q + 1)) = s + (nd - 1 - q) from by omega]⟩
      case measure => simp [intOf]; omega
    · obtain rfl : q = nd := by omega
      have hkm : k < m := by have := HK.out.1; have := Hn.out; omega
      have cx := HT.out.at (at_dot (neg := false) (c := coef) (nd := q) hs)
      rw [show 1 + ng false + q = k from by rw [HK.out.1]; simp [ng]] at cx
      have HV : Hid (V = coef / 10 ^ s) := by have := HK.out.2; simpa [Hid] using this
      have Hk : Hid (k = 1 + 0 + q) := HK.out.1
      clear HK
      have hil0 : (((k : Int) - (1 + 0)) == 0) = false := beq_eq_false_iff_ne.2 (by have := Hk.out; omega)
      go_wp2_with fail
      refine (isDigit_dot w).mono ?_
      rintro e w1 ⟨rfl, hw1⟩
      subst w1
      by_cases hn1 : 1 < q
      · have hl := hlead.out hn1
        have x48 : (x0 == 48) = false := beq_eq_false_iff_ne.2 (by omega)
        have hil : (1 : Int) < (k : Int) - (1 + 0) := by have := Hk.out; omega
        go_wp2
        go_loop [11, 14, 18] (fun i v f => ∃ j r V : Nat, i = .int .i64 j ∧ v = .int .u64 V ∧ f = .int .i64 r ∧ r ≤ s ∧ j ≤ 50 ∧ Hid (j = k + 1 + r ∧ V = coef / 10 ^ (s - r))) (fun i _ _ => m - (intOf i).toNat)
        case atStart => exact ⟨k + 1, 0, V, by go_num, rfl, rfl, Nat.zero_le _, by omega, rfl, HV.out⟩
        case round =>
          obtain ⟨j, r, V', rfl, rfl, rfl, hr, hj, HJ⟩ := hrel
          by_cases hlt' : r < s
          · have hjm : j < m := by have := HJ.out.1; have := Hk.out; have := Hn.out; omega
            have e : coef / 10 ^ (s - r) = coef / 10 ^ ((s - 1 - r) + 1) := by rw [show s - r = s - 1 - r + 1 from by omega]
            have hroom := push_room (V := V') hc (by rw [HJ.out.2, e])
            have hpush := push_int (V := V') (by rw [HJ.out.2, e])
            have cy := HT.out.at (at_frac (neg := false) (nd := q) (s := s) (q := r) hlt')
            rw [show 1 + ng false + q + 1 + r = j from by rw [HJ.out.1, Hk.out]; simp [ng]] at cy
            have y0 := dig_lo coef (s - 1 - r)
            have y1 := dig_hi coef (s - 1 - r)
            generalize dig coef (s - 1 - r) = x at *
            have HP : Hid ((V' : Int) * 10 + (x - 48) = ((coef / 10 ^ (s - 1 - r) : Nat) : Int)) := hpush
            clear hpush e
            go_wp2_with fail
            refine (isDigit_yes x y0 y1 w).mono ?_
            rintro e w1 ⟨rfl, hw1⟩
            subst w1
            go_wp2_with fail
            refine (push_any V' x (by omega) (by omega) y0 y1 w).mono ?_
            rintro e w1 ⟨rfl, hw1⟩
            subst w1
            rw [HP.out]
            go_wp2
            go_round
            case rel => exact ⟨j + 1, r + 1, _, by go_num, rfl, by go_num, by omega, by omega, by have := HJ.out.1; omega, by rw [show s - (r + 1) = s - 1 - r from by omega]⟩
            case measure => simp [intOf]; omega
          · obtain rfl : r = s := by omega
            have hjm : j = m := by have := HJ.out.1; have := Hk.out; have := Hn.out; omega
            subst hjm
            have hV : V' = coef := by rw [HJ.out.2]; simp
            subst hV
            have hr0 : ((r : Int) == 0) = false := beq_eq_false_iff_ne.2 (by omega)
            go_wp2
            go_ret
            exact ⟨rfl, rfl⟩
      · have hil : ¬ (1 : Int) < (k : Int) - (1 + 0) := by have := Hk.out; omega
        go_wp2
        go_loop [11, 14, 18] (fun i v f => ∃ j r V : Nat, i = .int .i64 j ∧ v = .int .u64 V ∧ f = .int .i64 r ∧ r ≤ s ∧ j ≤ 50 ∧ Hid (j = k + 1 + r ∧ V = coef / 10 ^ (s - r))) (fun i _ _ => m - (intOf i).toNat)
        case atStart => exact ⟨k + 1, 0, V, by go_num, rfl, rfl, Nat.zero_le _, by omega, rfl, HV.out⟩
        case round =>
          obtain ⟨j, r, V', rfl, rfl, rfl, hr, hj, HJ⟩ := hrel
          by_cases hlt' : r < s
          · have hjm : j < m := by have := HJ.out.1; have := Hk.out; have := Hn.out; omega
            have e : coef / 10 ^ (s - r) = coef / 10 ^ ((s - 1 - r) + 1) := by rw [show s - r = s - 1 - r + 1 from by omega]
            have hroom := push_room (V := V') hc (by rw [HJ.out.2, e])
            have hpush := push_int (V := V') (by rw [HJ.out.2, e])
            have cy := HT.out.at (at_frac (neg := false) (nd := q) (s := s) (q := r) hlt')
            rw [show 1 + ng false + q + 1 + r = j from by rw [HJ.out.1, Hk.out]; simp [ng]] at cy
            have y0 := dig_lo coef (s - 1 - r)
            have y1 := dig_hi coef (s - 1 - r)
            generalize dig coef (s - 1 - r) = x at *
            have HP : Hid ((V' : Int) * 10 + (x - 48) = ((coef / 10 ^ (s - 1 - r) : Nat) : Int)) := hpush
            clear hpush e
            go_wp2_with fail
            refine (isDigit_yes x y0 y1 w).mono ?_
            rintro e w1 ⟨rfl, hw1⟩
            subst w1
            go_wp2_with fail
            refine (push_any V' x (by omega) (by omega) y0 y1 w).mono ?_
            rintro e w1 ⟨rfl, hw1⟩
            subst w1
            rw [HP.out]
            go_wp2
            go_round
            case rel => exact ⟨j + 1, r + 1, _, by go_num, rfl, by go_num, by omega, by omega, by have := HJ.out.1; omega, by rw [show s - (r + 1) = s - 1 - r from by omega]⟩
            case measure => simp [intOf]; omega
          · obtain rfl : r = s := by omega
            have hjm : j = m := by have := HJ.out.1; have := Hk.out; have := Hn.out; omega
            subst hjm
            have hV : V' = coef := by rw [HJ.out.2]; simp
            subst hV
            have hr0 : ((r : Int) == 0) = false := beq_eq_false_iff_ne.2 (by omega)
            go_wp2
            go_ret
            exact ⟨rfl, rfl⟩

set_option maxRecDepth 100000 in
set_option maxHeartbeats 2000000 in
theorem rb_zero_true (G coef nd n : Nat) (w : World) (hc : coef ≤ 9999999999999999999) (Hnd : Hid (IsNd (coef / 10 ^ 0) nd)) (hn : 1 + 1 + nd + 1 = n) (hnd1 : 1 ≤ nd) (hnd2 : nd ≤ 21) (HT : Hid (IsB w G (quoted (rev coef 0 nd true)))) :
    Calls Try.prog 7 #[.slice (some ⟨G, 0, none⟩) n n, .int .u64 coef, .int .u8 0, .bool true] w fun e w' => e = .returned (.bool true) ∧ w' = w := by
  have a0 := HT.out.at (quoted_first _)
  have aE := HT.out.at (quoted_end _)
  rw [rev_len', show 0 + dt 0 + nd + ng true + 1 = n - 1 from by simp [dt, ng]; omega] at aE
  have aD : w.cell? ⟨G, 1 + 1, none⟩ = _ := HT.out.at (at_int (q := 0) (by omega))
  have a1 := HT.out.at at_sign
  have hd0 := dig_lo coef (0 + (nd - 1 - 0))
  have hd1 := dig_hi coef (0 + (nd - 1 - 0))
  have hlead : Hid (1 < nd → 49 ≤ dig coef (0 + (nd - 1 - 0))) := fun h => lead_digit Hnd.out h
  generalize dig coef (0 + (nd - 1 - 0)) = x0 at *
  have x45 : (x0 == 45) = false := beq_eq_false_iff_ne.2 (by omega)
  obtain ⟨m, rfl⟩ : ∃ m, n = m + 1 := ⟨n - 1, by omega⟩
  simp only [Nat.add_sub_cancel] at aE
  have hm : m ≤ 40 := by omega
  have hm3 : 2 ≤ (m : Int) := by omega
  have Hn : Hid (1 + 1 + nd = m) := by unfold Hid; omega
  clear hn
  go_enter Try.func7, Try.ntmps7
  go_wp2
  go_loop [11, 14] (fun i v => ∃ k q V : Nat, i = .int .i64 k ∧ v = .int .u64 V ∧ q ≤ nd ∧ k ≤ 40 ∧ Hid (k = 1 + 1 + q ∧ V = coef / 10 ^ (nd - q))) (fun i _ => m - (intOf i).toNat)
  case atStart =>
    refine ⟨1 + 1, 0, 0, rfl, rfl, Nat.zero_le _, by omega, rfl, ?_⟩
    have := Hnd.out.2.1
    simp at this
    exact (Nat.div_eq_of_lt (by simpa using this)).symm
  case round =>
    obtain ⟨k, q, V, rfl, rfl, hq, hk, HK⟩ := hrel
    by_cases hlt : q < nd
    · have hkm : k < m := by have := HK.out.1; have := Hn.out; omega
      have e : coef / 10 ^ (nd - q) = coef / 10 ^ ((nd - 1 - q) + 1) := by rw [show nd - q = nd - 1 - q + 1 from by omega]
      have hroom := push_room (V := V) hc (by rw [HK.out.2, e])
      have hpush := push_int (V := V) (by rw [HK.out.2, e])
      have cx := HT.out.at (at_int (neg := true) (s := 0) (q := q) hlt)
      rw [show 1 + ng true + q = k from by rw [HK.out.1]; simp [ng], Nat.zero_add] at cx
      have y0 := dig_lo coef (nd - 1 - q)
      have y1 := dig_hi coef (nd - 1 - q)
      generalize dig coef (nd - 1 - q) = x at *
      have HP : Hid ((V : Int) * 10 + (x - 48) = ((coef / 10 ^ (nd - 1 - q) : Nat) : Int)) := hpush
      clear hpush e
      go_wp2_with fail
      refine (isDigit_yes x y0 y1 w).mono ?_
      rintro e w1 ⟨rfl, hw1⟩
      subst w1
      go_wp2_with fail
      refine (push_any V x (by omega) (by omega) y0 y1 w).mono ?_
      rintro e w1 ⟨rfl, hw1⟩
      subst w1
      rw [HP.out]
      go_wp2
      go_round
      case rel => exact ⟨k + 1, q + 1, _, by go_num, rfl, by omega, by omega, by have := HK.out.1; omega, by rw [show nd - (q + 1) = nd - 1 - q from by omega]⟩
      case measure => simp [intOf]; omega
    · have hkm : k = m := by have := HK.out.1; have := Hn.out; omega
      subst hkm
      obtain rfl : q = nd := by omega
      have hV : V = coef := by rw [HK.out.2]; simp
      subst hV
      by_cases hn1 : 1 < q
      · have hl := hlead.out hn1
        have x48 : (x0 == 48) = false := beq_eq_false_iff_ne.2 (by omega)
        have hil : (1 : Int) < (k : Int) - (1 + 1) := by have := Hn.out; omega
        have hil0 : (((k : Int) - (1 + 1)) == 0) = false := beq_eq_false_iff_ne.2 (by omega)
        go_wp2
        go_ret
        exact ⟨rfl, rfl⟩
      · have hil : ¬ (1 : Int) < (k : Int) - (1 + 1) := by have := Hn.out; omega
        have hil0 : (((k : Int) - (1 + 1)) == 0) = false := beq_eq_false_iff_ne.2 (by have := Hn.out; omega)
        go_wp2
        go_ret
        exact ⟨rfl, rfl⟩

set_option maxRecDepth 100000 in
set_option maxHeartbeats 2000000 in
theorem rb_pos_true (G coef s nd n : Nat) (w : World) (hc : coef ≤ 9999999999999999999) (hs : 0 < s) (hs2 : s ≤ 19) (Hnd : Hid (IsNd (coef / 10 ^ s) nd)) (hn : 1 + 1 + nd + 1 + s + 1 = n) (hnd1 : 1 ≤ nd) (hnd2 : nd ≤ 21) (HT : Hid (IsB w G (quoted (rev coef s nd true)))) :
    Calls Try.prog 7 #[.slice (some ⟨G, 0, none⟩) n n, .int .u64 coef, .int .u8 s, .bool true] w fun e w' => e = .returned (.bool true) ∧ w' = w := by
  have a0 := HT.out.at (quoted_first _)
  have aE := HT.out.at (quoted_end _)
  rw [rev_len', show s + dt s + nd + ng true + 1 = n - 1 from by simp [dt, ng, show ¬ s = 0 from by omega]; omega] at aE
  have aD : w.cell? ⟨G, 1 + 1, none⟩ = _ := HT.out.at (at_int (q := 0) (by omega))
  have a1 := HT.out.at at_sign
  have hd0 := dig_lo coef (s + (nd - 1 - 0))
  have hd1 := dig_hi coef (s + (nd - 1 - 0))
  have hlead : Hid (1 < nd → 49 ≤ dig coef (s + (nd - 1 - 0))) := fun h => lead_digit Hnd.out h
  generalize dig coef (s + (nd - 1 - 0)) = x0 at *
  have x45 : (x0 == 45) = false := beq_eq_false_iff_ne.2 (by omega)
  obtain ⟨m, rfl⟩ : ∃ m, n = m + 1 := ⟨n - 1, by omega⟩
  simp only [Nat.add_sub_cancel] at aE
  have hm : m ≤ 50 := by omega
  have hm3 : 2 ≤ (m : Int) := by omega
  have Hn : Hid (1 + 1 + nd + 1 + s = m) := by unfold Hid; omega
  clear hn
  go_enter Try.func7, Try.ntmps7
  go_wp2
  go_loop [11, 14] (fun i v => ∃ k q V : Nat, i = .int .i64 k ∧ v = .int .u64 V ∧ q ≤ nd ∧ k ≤ 50 ∧ Hid (k = 1 + 1 + q ∧ V = coef / 10 ^ (s + (nd - q)))) (fun i _ => m - (intOf i).toNat)
  case atStart =>
    refine ⟨1 + 1, 0, 0, rfl, rfl, Nat.zero_le _, by omega, rfl, ?_⟩
    have h := Hnd.out.2.1
    rw [Nat.pow_add, ← Nat.div_div_eq_div_mul]
    exact (Nat.div_eq_of_lt h).symm
  case round =>
    obtain ⟨k, q, V, rfl, rfl, hq, hk, HK⟩ := hrel
    by_cases hlt : q < nd
    · have hkm : k < m := by have := HK.out.1; have := Hn.out; omega
      have e : coef / 10 ^ (s + (nd - q)) = coef / 10 ^ ((s + (nd - 1 - q)) + 1) := by rw [show s + (nd - q) = s + (nd - 1 - q) + 1 from by omega]
      have hroom := push_room (V := V) hc (by rw [HK.out.2, e])
      have hpush := push_int (V := V) (by rw [HK.out.2, e])
      have cx := HT.out.at (at_int (neg := true) (s := s) (q := q) hlt)
      rw [show 1 + ng true + q = k from by rw [HK.out.1]; simp [ng]] at cx
      have y0 := dig_lo coef (s + (nd - 1 - q))
      have y1 := dig_hi coef (s + (nd - 1 - q))
      generalize dig coef (s + (nd - 1 - q)) = x at *
      have HP : Hid ((V : Int) * 10 + (x - 48) = ((coef / 10 ^ (s + (nd - 1 - q)) : Nat) : Int)) := hpush
      clear hpush e
      go_wp2_with fail
      refine (isDigit_yes x y0 y1 w).mono ?_
      rintro e w1 ⟨rfl, hw1⟩
      subst w1
      go_wp2_with fail
      refine (push_any V x (by omega) (by omega) y0 y1 w).mono ?_
      rintro e w1 ⟨rfl, hw1⟩
      subst w1
      rw [HP.out]
      go_wp2
      go_round
      case rel => exact ⟨k + 1, q + 1, _, by go_num, rfl, by omega, by omega, by have := HK.out.1; omega, by rw [show s + (nd - (q + 1)) = s + (nd - 1 - q) from by omega]⟩
      case measure => simp [intOf]; omega
    · obtain rfl : q = nd := by omega
      have hkm : k < m := by have := HK.out.1; have := Hn.out; omega
      have cx := HT.out.at (at_dot (neg := true) (c := coef) (nd := q) hs)
      rw [show 1 + ng true + q = k from by rw [HK.out.1]; simp [ng]] at cx
      have HV : Hid (V = coef / 10 ^ s) := by have := HK.out.2; simpa [Hid] using this
      have Hk : Hid (k = 1 + 1 + q) := HK.out.1
      clear HK
      have hil0 : (((k : Int) - (1 + 1)) == 0) = false := beq_eq_false_iff_ne.2 (by have := Hk.out; omega)
      go_wp2_with fail
      refine (isDigit_dot w).mono ?_
      rintro e w1 ⟨rfl, hw1⟩
      subst w1
      by_cases hn1 : 1 < q
      · have hl := hlead.out hn1
        have x48 : (x0 == 48) = false := beq_eq_false_iff_ne.2 (by omega)
        have hil : (1 : Int) < (k : Int) - (1 + 1) := by have := Hk.out; omega
        go_wp2
        go_loop [11, 14, 18] (fun i v f => ∃ j r V : Nat, i = .int .i64 j ∧ v = .int .u64 V ∧ f = .int .i64 r ∧ r ≤ s ∧ j ≤ 50 ∧ Hid (j = k + 1 + r ∧ V = coef / 10 ^ (s - r))) (fun i _ _ => m - (intOf i).toNat)
        case atStart => exact ⟨k + 1, 0, V, by go_num, rfl, rfl, Nat.zero_le _, by omega, rfl, HV.out⟩
        case round =>
          obtain ⟨j, r, V', rfl, rfl, rfl, hr, hj, HJ⟩ := hrel
          by_cases hlt' : r < s
          · have hjm : j < m := by have := HJ.out.1; have := Hk.out; have := Hn.out; omega
            have e : coef / 10 ^ (s - r) = coef / 10 ^ ((s - 1 - r) + 1) := by rw [show s - r = s - 1 - r + 1 from by omega]
            have hroom := push_room (V := V') hc (by rw [HJ.out.2, e])
            have hpush := push_int (V := V') (by rw [HJ.out.2, e])
            have cy := HT.out.at (at_frac (neg := true) (nd := q) (s := s) (q := r) hlt')
            rw [show 1 + ng true + q + 1 + r = j from by rw [HJ.out.1, Hk.out]; simp [ng]] at cy
            have y0 := dig_lo coef (s - 1 - r)
            have y1 := dig_hi coef (s - 1 - r)
            generalize dig coef (s - 1 - r) = x at *
            have HP : Hid ((V' : Int) * 10 + (x - 48) = ((coef / 10 ^ (s - 1 - r) : Nat) : Int)) := hpush
            clear hpush e
            go_wp2_with fail
            refine (isDigit_yes x y0 y1 w).mono ?_
            rintro e w1 ⟨rfl, hw1⟩
            subst w1
            go_wp2_with fail
            refine (push_any V' x (by omega) (by omega) y0 y1 w).mono ?_
            rintro e w1 ⟨rfl, hw1⟩
            subst w1
            rw [HP.out]
            go_wp2
            go_round
            case rel => exact ⟨j + 1, r + 1, _, by go_num, rfl, by go_num, by omega, by omega, by have := HJ.out.1; omega, by rw [show s - (r + 1) = s - 1 - r from by omega]⟩
            case measure => simp [intOf]; omega
          · obtain rfl : r = s := by omega
            have hjm : j = m := by have := HJ.out.1; have := Hk.out; have := Hn.out; omega
            subst hjm
            have hV : V' = coef := by rw [HJ.out.2]; simp
            subst hV
            have hr0 : ((r : Int) == 0) = false := beq_eq_false_iff_ne.2 (by omega)
            go_wp2
            go_ret
            exact ⟨rfl, rfl⟩
      · have hil : ¬ (1 : Int) < (k : Int) - (1 + 1) := by have := Hk.out; omega
        go_wp2
        go_loop [11, 14, 18] (fun i v f => ∃ j r V : Nat, i = .int .i64 j ∧ v = .int .u64 V ∧ f = .int .i64 r ∧ r ≤ s ∧ j ≤ 50 ∧ Hid (j = k + 1 + r ∧ V = coef / 10 ^ (s - r))) (fun i _ _ => m - (intOf i).toNat)
        case atStart => exact ⟨k + 1, 0, V, by go_num, rfl, rfl, Nat.zero_le _, by omega, rfl, HV.out⟩
        case round =>
          obtain ⟨j, r, V', rfl, rfl, rfl, hr, hj, HJ⟩ := hrel
          by_cases hlt' : r < s
          · have hjm : j < m := by have := HJ.out.1; have := Hk.out; have := Hn.out; omega
            have e : coef / 10 ^ (s - r) = coef / 10 ^ ((s - 1 - r) + 1) := by rw [show s - r = s - 1 - r + 1 from by omega]
            have hroom := push_room (V := V') hc (by rw [HJ.out.2, e])
            have hpush := push_int (V := V') (by rw [HJ.out.2, e])
            have cy := HT.out.at (at_frac (neg := true) (nd := q) (s := s) (q := r) hlt')
            rw [show 1 + ng true + q + 1 + r = j from by rw [HJ.out.1, Hk.out]; simp [ng]] at cy
            have y0 := dig_lo coef (s - 1 - r)
            have y1 := dig_hi coef (s - 1 - r)
            generalize dig coef (s - 1 - r) = x at *
            have HP : Hid ((V' : Int) * 10 + (x - 48) = ((coef / 10 ^ (s - 1 - r) : Nat) : Int)) := hpush
            clear hpush e
            go_wp2_with fail
            refine (isDigit_yes x y0 y1 w).mono ?_
            rintro e w1 ⟨rfl, hw1⟩
            subst w1
            go_wp2_with fail
            refine (push_any V' x (by omega) (by omega) y0 y1 w).mono ?_
            rintro e w1 ⟨rfl, hw1⟩
            subst w1
            rw [HP.out]
            go_wp2
            go_round
            case rel => exact ⟨j + 1, r + 1, _, by go_num, rfl, by go_num, by omega, by omega, by have := HJ.out.1; omega, by rw [show s - (r + 1) = s - 1 - r from by omega]⟩
            case measure => simp [intOf]; omega
          · obtain rfl : r = s := by omega
            have hjm : j = m := by have := HJ.out.1; have := Hk.out; have := Hn.out; omega
            subst hjm
            have hV : V' = coef := by rw [HJ.out.2]; simp
            subst hV
            have hr0 : ((r : Int) == 0) = false := beq_eq_false_iff_ne.2 (by omega)
            go_wp2
            go_ret
            exact ⟨rfl, rfl⟩

end Go.Proofs.Qxb6618375a
