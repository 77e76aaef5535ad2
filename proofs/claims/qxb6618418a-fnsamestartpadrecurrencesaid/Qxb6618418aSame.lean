/-
  sameStart: the run of alike bytes at two lines' start.
-/
import Derived.Test.Qxb6618418aBase
import Derived.Deep.QuietTactic
import Derived.BigQuiet
import Derived.Deep.RegionWith
namespace Go.Proofs.Qxb6618418a
open Go.RowKit
set_option linter.unusedVariables false

theorem isS_drew {w wr : World} {a : Option Addr} {len : Nat} {zs : List Int} (H : Hid (∃ t, wr = w.drewN t)) (h : IsS w a len zs) : IsS wr a len zs := by
  obtain ⟨t, rfl⟩ := H.out; exact h
theorem drew_more {w wr : World} (H : Hid (∃ t, wr = w.drewN t)) (n : Nat) : ∃ t, wr.drewN n = w.drewN t := by
  obtain ⟨t, rfl⟩ := H.out; exact ⟨t + n, World.drewN_drewN _ _ _⟩

theorem isDigit_is (x : Int) (v : Bool) (w : World) (h : digB x = v) : Calls Try.prog 13 #[.int .u8 x] w fun e w' => e = .returned (.bool v) ∧ w' = w := by
  rw [← h]; exact isDigit_any x w

theorem same_ret {zs ys : List Int} {k : Nat} {v : Int} (h : run zs ys = k) (hv : (k < 4 ∧ v = 0) ∨ (4 ≤ k ∧ v = k)) : Ending.returned (.int .i64 v) = .returned (.int .i64 (ss zs ys)) := by
  have e : v = ((ss zs ys : Nat) : Int) := by
    unfold ss
    rw [h]
    split <;> omega
  rw [e]

set_option maxRecDepth 100000 in
set_option maxHeartbeats 1000000 in
theorem same_any (a : Option Addr) (la ca : Nat) (zs : List Int) (b : Option Addr) (lb cb : Nat) (ys : List Int) (w : World) (hla : la ≤ 1048580) (hlb : lb ≤ 1048580) (hz : IsS w a la zs) (hy : IsS w b lb ys) :
    Calls Try.prog 11 #[.slice a la ca, .slice b lb cb] w fun e w' => e = .returned (.int .i64 (ss zs ys)) ∧ ∃ t, w' = w.drewN t := by
  go_enter Try.func11, Try.ntmps11
  go_wp2
  go_loopw [5] (fun i wr => ∃ k : Nat, i = .int .i64 k ∧ k ≤ la ∧ k ≤ lb ∧ Hid (run (zs.drop k) (ys.drop k) + k = run zs ys) ∧ Hid (∃ t, wr = w.drewN t)) (fun i _ => la - (intOf i).toNat)
  case atStart => exact ⟨0, rfl, by omega, by omega, by simp [Hid], ⟨0, rfl⟩⟩
  case round =>
    obtain ⟨k, rfl, hka, hkb, HR, HT⟩ := hrel
    have hz := isS_drew HT hz
    have hy := isS_drew HT hy
    by_cases hlt : k < la ∧ k < lb
    · obtain ⟨b1, o1, x, rfl, hb1, hx, cx, x0, x1⟩ := hz.at hlt.1
      obtain ⟨b2, o2, y, rfl, hb2, hy', cy, y0, y1⟩ := hy.at hlt.2
      have l1 : (k : Int) < (la : Int) := by omega
      have l2 : (k : Int) < (lb : Int) := by omega
      by_cases hml : (lb : Int) < (la : Int)
      all_goals
        cases hxy : (x == y)
        · cases hdx : digB x
          · have hst := run_stop hx hy' (by simp [alikeB, hxy, hdx]) HR
            have HS : Hid (run zs ys = k) := hst
            clear hx hy' HR hst
            go_wp2_with fail
            go_quiet ((go_at_call 13; exact Calls.quiet_of_same (isDigit_is _ _ _ hdx)))
            go_wp2
            all_goals
              go_ret
              exact ⟨same_ret HS.out (by omega), drew_more HT _⟩
          · cases hdy : digB y
            · have hst := run_stop hx hy' (by simp [alikeB, hxy, hdx, hdy]) HR
              have HS : Hid (run zs ys = k) := hst
              clear hx hy' HR hst
              go_wp2_with fail
              go_quiet (first | (go_at_call_of 13 x; exact Calls.quiet_of_same (isDigit_is _ _ _ hdx)) | (go_at_call_of 13 y; exact Calls.quiet_of_same (isDigit_is _ _ _ hdy)))
              go_wp2
              all_goals
                go_ret
                exact ⟨same_ret HS.out (by omega), drew_more HT _⟩
            · have HR' := run_go hx hy' (by simp [alikeB, hxy, hdx, hdy]) HR
              clear hx hy' HR
              go_wp2_with fail
              go_quiet (first | (go_at_call_of 13 x; exact Calls.quiet_of_same (isDigit_is _ _ _ hdx)) | (go_at_call_of 13 y; exact Calls.quiet_of_same (isDigit_is _ _ _ hdy)))
              go_wp2
              go_roundw
              case rel => exact ⟨k + 1, by go_num, by omega, by omega, HR', drew_more HT _⟩
              case measure => simp [intOf]; omega
        · have HR' := run_go hx hy' (by simp [alikeB, hxy]) HR
          clear hx hy' HR
          go_wp2_with fail
          go_quiet (fail)
          go_wp2
          go_roundw
          case rel => exact ⟨k + 1, by go_num, by omega, by omega, HR', drew_more HT _⟩
          case measure => simp [intOf]; omega
    · have hst := run_end (zs := zs) (ys := ys) (k := k) (by have := hz.1; have := hy.1; omega) HR
      have HS : Hid (run zs ys = k) := hst
      clear HR hst
      by_cases hml : (lb : Int) < (la : Int)
      · have hd : decide (k < lb) = false := decide_eq_false (by omega)
        go_wp2_with fail
        go_quiet (fail)
        go_wp2
        all_goals
          go_ret
          exact ⟨same_ret HS.out (by omega), drew_more HT _⟩
      · have hd : decide (k < la) = false := decide_eq_false (by omega)
        go_wp2_with fail
        go_quiet (fail)
        go_wp2
        all_goals
          go_ret
          exact ⟨same_ret HS.out (by omega), drew_more HT _⟩

set_option maxHeartbeats 400000 in
theorem zz_same (a : Option Addr) (la ca : Nat) (zs : List Int) (b : Option Addr) (lb cb : Nat) (ys : List Int) (w : World) (hla : la ≤ 1048580) (hlb : lb ≤ 1048580) (hz : IsS w a la zs) (hy : IsS w b lb ys) :
    Calls Try.prog 6 #[.slice a la ca, .slice b lb cb] w fun e w' => e = .returned (.int .i64 (ss zs ys)) ∧ ∃ t, w' = w.drewN t := by
  go_enter Try.func6, Try.ntmps6
  go_wp2_with fail
  refine (same_any a la ca zs b lb cb ys w hla hlb hz hy).mono ?_
  rintro e w1 ⟨rfl, t, rfl⟩
  go_wp2
  go_ret
  exact ⟨rfl, t, rfl⟩

end Go.Proofs.Qxb6618418a
