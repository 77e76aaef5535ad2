/-
  THE READERS THAT COMPARE TWO TEXTS: zzTrailingZeroOf, zzSameTail, zzSignFlipped.
-/
import Derived.Test.Qxb6618375aMar
import Derived.Deep.QuietTactic
import Derived.BigQuiet
namespace Go.Proofs.Qxb6618375a
open Go.RowKit
set_option linter.unusedVariables false

theorem IsB.at {w : World} {G : Nat} {T : List Int} {i : Nat} {x : Int} (h : IsB w G T) (hx : T[i]? = some x) : w.cell? ⟨G, i, none⟩ = some (.int .u8 x) := by
  obtain ⟨hi, rfl⟩ := List.getElem?_eq_some_iff.1 hx
  exact h.2 i hi

/-- What a reader comes to: true; the world has drawn, no more. -/
def ReadPost (w : World) (e : Ending) (w' : World) : Prop := e = .returned (.bool true) ∧ ∃ t, w' = w.drewN t

set_option maxRecDepth 100000 in
set_option maxHeartbeats 1000000 in
theorem tz_zero (Ga Gb n : Nat) (U : List Int) (w : World) (hn : U.length = n) (hn0 : 0 < n) (hn22 : n ≤ 30) (ha : IsB w Ga (U ++ [34])) (hb : IsB w Gb (U ++ [46, 48, 34])) :
    Calls Try.prog 11 #[.slice (some ⟨Ga, 0, none⟩) (n + 1) (n + 1), .slice (some ⟨Gb, 0, none⟩) (n + 3) (n + 3), .int .u8 0] w (ReadPost w) := by
  have a1 := ha.at (i := n) (x := 34) (by simp [← hn])
  have b1 := hb.at (i := n) (x := 46) (by simp [← hn])
  have b2 := hb.at (i := n + 1) (x := 48) (by simp [← hn])
  have b3 := hb.at (i := n + 2) (x := 34) (by simp [← hn])
  go_enter Try.func11, Try.ntmps11
  go_wp2
  go_loopw [10] (fun i wr => ∃ k : Nat, k ≤ n ∧ i = .int .i64 k ∧ ∃ t, wr = w.drewN t) (fun i _ => n - (intOf i).toNat)
  case atStart => exact ⟨0, Nat.zero_le _, rfl, 0, rfl⟩
  case round =>
    obtain ⟨k, hk, rfl, t, rfl⟩ := hrel
    by_cases hlt : k < n
    · have hx : U[k]? = some (U[k]'(by omega)) := by simp
      have ca := ha.at (i := k) (x := U[k]'(by omega)) (by rw [List.getElem?_append_left (by omega)]; exact hx)
      have cb := hb.at (i := k) (x := U[k]'(by omega)) (by rw [List.getElem?_append_left (by omega)]; exact hx)
      clear hx
      generalize U[k]'(by omega) = x at *
      have l1 : (k : Int) < (n : Int) + 1 := by omega
      have l2 : (k : Int) < (n : Int) + 3 := by omega
      go_wp2_with fail
      go_quiet (fail)
      go_wp2
      go_roundw
      case rel => exact ⟨k + 1, by omega, by go_num, _, rfl⟩
      case measure => simp [intOf]; omega
    · go_wp2
      go_ret
      exact ⟨rfl, _, rfl⟩

set_option maxRecDepth 100000 in
set_option maxHeartbeats 1000000 in
theorem tz_pos (Ga Gb n s : Nat) (U : List Int) (w : World) (hs : 0 < s) (hn : U.length = n) (hn0 : 0 < n) (hn22 : n ≤ 30) (ha : IsB w Ga (U ++ [34])) (hb : IsB w Gb (U ++ [48, 34])) :
    Calls Try.prog 11 #[.slice (some ⟨Ga, 0, none⟩) (n + 1) (n + 1), .slice (some ⟨Gb, 0, none⟩) (n + 2) (n + 2), .int .u8 s] w (ReadPost w) := by
  have a1 := ha.at (i := n) (x := 34) (by simp [← hn])
  have b1 := hb.at (i := n) (x := 48) (by simp [← hn])
  have b3 := hb.at (i := n + 1) (x := 34) (by simp [← hn])
  have hs0 : ((s : Int) == 0) = false := beq_eq_false_iff_ne.2 (by omega)
  go_enter Try.func11, Try.ntmps11
  go_wp2
  go_loopw [10] (fun i wr => ∃ k : Nat, k ≤ n ∧ i = .int .i64 k ∧ ∃ t, wr = w.drewN t) (fun i _ => n - (intOf i).toNat)
  case atStart => exact ⟨0, Nat.zero_le _, rfl, 0, rfl⟩
  case round =>
    obtain ⟨k, hk, rfl, t, rfl⟩ := hrel
    by_cases hlt : k < n
    · have hx : U[k]? = some (U[k]'(by omega)) := by simp
      have ca := ha.at (i := k) (x := U[k]'(by omega)) (by rw [List.getElem?_append_left (by omega)]; exact hx)
      have cb := hb.at (i := k) (x := U[k]'(by omega)) (by rw [List.getElem?_append_left (by omega)]; exact hx)
      clear hx
      generalize U[k]'(by omega) = x at *
      have l1 : (k : Int) < (n : Int) + 1 := by omega
      have l2 : (k : Int) < (n : Int) + 2 := by omega
      go_wp2_with fail
      go_quiet (fail)
      go_wp2
      go_roundw
      case rel => exact ⟨k + 1, by omega, by go_num, _, rfl⟩
      case measure => simp [intOf]; omega
    · go_wp2
      go_ret
      exact ⟨rfl, _, rfl⟩

set_option maxRecDepth 100000 in
set_option maxHeartbeats 1000000 in
theorem tail_same (Ga Gb n : Nat) (V : List Int) (w : World) (hn : V.length = n) (hn22 : n ≤ 30) (ha : IsB w Ga (34 :: 45 :: V)) (hb : IsB w Gb (34 :: V)) :
    Calls Try.prog 15 #[.slice (some ⟨Ga, 0, none⟩) (n + 2) (n + 2), .int .i64 2, .slice (some ⟨Gb, 0, none⟩) (n + 1) (n + 1), .int .i64 1] w (ReadPost w) := by
  go_enter Try.func15, Try.ntmps15
  go_wp2
  go_loopw [9] (fun i wr => ∃ k : Nat, k ≤ n ∧ i = .int .i64 k ∧ ∃ t, wr = w.drewN t) (fun i _ => n - (intOf i).toNat)
  case atStart => exact ⟨0, Nat.zero_le _, rfl, 0, rfl⟩
  case round =>
    obtain ⟨k, hk, rfl, t, rfl⟩ := hrel
    by_cases hlt : k < n
    · have hx : V[k]? = some (V[k]'(by omega)) := by simp
      have ca := ha.at (i := 2 + k) (x := V[k]'(by omega)) (by rw [Nat.add_comm]; exact hx)
      have cb := hb.at (i := 1 + k) (x := V[k]'(by omega)) (by rw [Nat.add_comm]; exact hx)
      clear hx
      generalize V[k]'(by omega) = x at *
      have l1 : 2 + (k : Int) < (n : Int) + 2 := by omega
      have l2 : 1 + (k : Int) < (n : Int) + 1 := by omega
      go_wp2_with fail
      go_quiet (fail)
      go_wp2
      go_roundw
      case rel => exact ⟨k + 1, by omega, by go_num, _, rfl⟩
      case measure => simp [intOf]; omega
    · go_wp2
      go_ret
      exact ⟨rfl, _, rfl⟩

set_option maxRecDepth 100000 in
set_option maxHeartbeats 1000000 in
theorem flip_neg (Ga Gb n : Nat) (V : List Int) (w : World) (hn : V.length = n) (hn0 : 0 < n) (hn22 : n ≤ 30) (ha : IsB w Ga (34 :: 45 :: V)) (hb : IsB w Gb (34 :: V)) :
    Calls Try.prog 8 #[.slice (some ⟨Ga, 0, none⟩) (n + 2) (n + 2), .slice (some ⟨Gb, 0, none⟩) (n + 1) (n + 1), .bool true] w (ReadPost w) := by
  have a0 := ha.at (i := 0) (x := 34) rfl
  have a1 := ha.at (i := 1) (x := 45) rfl
  have b0 := hb.at (i := 0) (x := 34) rfl
  have l1 : (1 : Int) < (n : Int) + 2 := by omega
  have l0 : (0 : Int) < (n : Int) + 2 := by omega
  have l2 : (0 : Int) < (n : Int) + 1 := by omega
  go_enter Try.func8, Try.ntmps8
  go_wp2_with fail
  refine (tail_same Ga Gb n V w hn hn22 ha hb).mono ?_
  rintro e w1 ⟨rfl, t, rfl⟩
  go_wp2
  go_ret
  exact ⟨rfl, _, rfl⟩

set_option maxRecDepth 100000 in
set_option maxHeartbeats 1000000 in
theorem flip_pos (Ga Gb n : Nat) (V : List Int) (w : World) (hn : V.length = n) (hn0 : 0 < n) (hn22 : n ≤ 30) (ha : IsB w Ga (34 :: V)) (hb : IsB w Gb (34 :: 45 :: V)) :
    Calls Try.prog 8 #[.slice (some ⟨Ga, 0, none⟩) (n + 1) (n + 1), .slice (some ⟨Gb, 0, none⟩) (n + 2) (n + 2), .bool false] w (ReadPost w) := by
  have a0 := hb.at (i := 0) (x := 34) rfl
  have a1 := hb.at (i := 1) (x := 45) rfl
  have b0 := ha.at (i := 0) (x := 34) rfl
  have l1 : (1 : Int) < (n : Int) + 2 := by omega
  have l0 : (0 : Int) < (n : Int) + 2 := by omega
  have l2 : (0 : Int) < (n : Int) + 1 := by omega
  go_enter Try.func8, Try.ntmps8
  go_wp2_with fail
  refine (tail_same Gb Ga n V w hn hn22 hb ha).mono ?_
  rintro e w1 ⟨rfl, t, rfl⟩
  go_wp2
  go_ret
  exact ⟨rfl, _, rfl⟩

end Go.Proofs.Qxb6618375a
