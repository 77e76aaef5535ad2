/-
  THE WALKS: printable, zzBytesWithin, the bound on bytes, and the law.
-/
import Derived.Test.Qxb6618434aRows
import Derived.WalkKit
import Derived.WalkSpells
import Derived.WalkLawsBesides
namespace Go.Proofs.Qxb6618434a
open Go.RowKit
set_option linter.unusedVariables false

/-- Printable, and no space. -/
def okB (c : UInt8) : Bool := decide (33 ≤ (c.toNat : Int)) && decide ((c.toNat : Int) ≤ 126)
def prB (s : ByteArray) : Bool := s.data.toList.all okB

theorem drop_byte (s : ByteArray) (k : Nat) (h : k < s.size) : s.data.toList.drop k = s[k] :: s.data.toList.drop (k + 1) := by
  rw [List.drop_eq_getElem_cons (by simpa using h)]; rfl
theorem take_byte (s : ByteArray) (k : Nat) (h : k < s.size) : s.data.toList.take (k + 1) = s.data.toList.take k ++ [s[k]] := by
  rw [List.take_succ_eq_append_getElem (by simpa using h)]; rfl

theorem okB_no {c : UInt8} (h : (c.toNat : Int) ≤ 32 ∨ 126 < (c.toNat : Int)) : okB c = false := by
  unfold okB
  rcases h with h | h
  · simp; omega
  · simp; omega
theorem okB_yes {c : UInt8} (h : 32 < (c.toNat : Int)) (h2 : (c.toNat : Int) ≤ 126) : okB c = true := by
  unfold okB
  simp; omega

theorem all_stop {s : ByteArray} {k : Nat} {v : Bool} (h : k < s.size) (H : Hid ((s.data.toList.drop k).all okB = v)) (hb : okB s[k] = false) : v = false := by
  have := H.out
  rw [drop_byte s k h, List.all_cons, hb] at this
  simpa using this.symm
theorem all_go {s : ByteArray} {k : Nat} {v : Bool} (h : k < s.size) (H : Hid ((s.data.toList.drop k).all okB = v)) (hb : okB s[k] = true) : Hid ((s.data.toList.drop (k + 1)).all okB = v) := by
  have := H.out
  rw [drop_byte s k h, List.all_cons, hb, Bool.true_and] at this
  exact this

set_option maxHeartbeats 400000 in
theorem printable_any (s : ByteArray) (w : World) (hs : s.size ≤ 1048576) :
    Calls Try.prog 7 #[.string s] w fun e w' => e = .returned (.bool (prB s)) ∧ w' = w := by
  obtain ⟨v, Hv⟩ : ∃ v, Hid (prB s = v) := ⟨_, rfl⟩
  rw [Hv.out]
  go_enter Try.func7, Try.ntmps7
  go_wp2
  go_loop [3] (fun i => ∃ k : Nat, k ≤ s.size ∧ i = .int .i64 k ∧ Hid ((s.data.toList.drop k).all okB = v)) (fun i => s.size - (intOf i).toNat)
  case atStart => exact ⟨0, Nat.zero_le _, rfl, Hv⟩
  case round =>
    obtain ⟨k, hk, rfl, HK⟩ := hrel
    by_cases hlt : k < s.size
    · go_wp2
      · have h : (s[k].toNat : Int) ≤ 32 ∨ 126 < (s[k].toNat : Int) := by assumption
        have e := all_stop hlt HK (okB_no h)
        subst e
        go_ret
        exact ⟨rfl, rfl⟩
      · have h : 32 < (s[k].toNat : Int) ∧ (s[k].toNat : Int) ≤ 126 := by assumption
        have e := all_go hlt HK (okB_yes h.1 h.2)
        go_round
        case rel => exact ⟨k + 1, by omega, by go_num, e⟩
        case measure => simp [intOf]; omega
      · have h : (s[k].toNat : Int) ≤ 32 := by assumption
        have e := all_stop hlt HK (okB_no (.inl h))
        subst e
        go_ret
        exact ⟨rfl, rfl⟩
    · go_wp2
      go_ret
      have e := HK.out
      rw [List.drop_of_length_le (by simp; omega)] at e
      simp at e
      subst e
      exact ⟨rfl, rfl⟩

set_option maxHeartbeats 400000 in
theorem zz_printable (s : ByteArray) (w : World) (hs : s.size ≤ 1048576) :
    Calls Try.prog 6 #[.string s] w fun e w' => e = .returned (.bool (prB s)) ∧ w' = w := by
  go_enter Try.func6, Try.ntmps6
  go_wp2_with fail
  refine (printable_any s w hs).mono ?_
  rintro e w1 ⟨rfl, hw⟩
  subst w1
  go_wp2
  go_ret
  exact ⟨rfl, rfl⟩

/-- What the least and the greatest byte say so far. -/
def Within (s : ByteArray) (k : Nat) (L H : Int) : Prop := (33 ≤ L ∧ H ≤ 126) ↔ (s.data.toList.take k).all okB = true

theorem within_step {s : ByteArray} {k : Nat} {L H L' H' : Int} (h : k < s.size) (hw : Within s k L H) (hL : L' = if (s[k].toNat : Int) < L then (s[k].toNat : Int) else L) (hH : H' = if H < (s[k].toNat : Int) then (s[k].toNat : Int) else H) : Within s (k + 1) L' H' := by
  unfold Within at hw ⊢
  rw [take_byte s k h, List.all_append, Bool.and_eq_true, ← hw]
  simp only [List.all_cons, List.all_nil, Bool.and_true, okB, Bool.and_eq_true, decide_eq_true_eq]
  subst hL; subst hH
  split <;> split <;> omega
theorem within_one {s : ByteArray} (h : 0 < s.size) : Within s 1 (s[0].toNat : Int) (s[0].toNat : Int) := by
  unfold Within
  rw [take_byte s 0 h]
  simp [okB]
theorem within_end {s : ByteArray} {k : Nat} {L H : Int} (hk : s.size ≤ k) (hw : Within s k L H) : (decide (33 ≤ L) && decide (H ≤ 126)) = prB s := by
  unfold Within at hw
  rw [List.take_of_length_le (by simpa using hk)] at hw
  unfold prB
  rw [Bool.eq_iff_iff, ← hw]
  simp

set_option maxHeartbeats 1000000 in
theorem within_any (s : ByteArray) (w : World) (hs : s.size ≤ 1048576) :
    Calls Try.prog 5 #[.string s] w fun e w' => e = .returned (.bool (prB s)) ∧ w' = w := by
  obtain ⟨v, Hv⟩ : ∃ v, Hid (prB s = v) := ⟨_, rfl⟩
  rw [Hv.out]
  by_cases h0 : s.size = 0
  · have e0 : ((s.size : Int) == 0) = true := beq_iff_eq.2 (by omega)
    have hv : v = true := by
      rw [← Hv.out]
      unfold prB
      have hd : s.data.toList = [] := List.eq_nil_of_length_eq_zero (by simpa using h0)
      rw [hd]; rfl
    subst hv
    clear h0
    go_enter Try.func5, Try.ntmps5
    go_wp2
    go_ret
    exact ⟨rfl, rfl⟩
  have e0 : ((s.size : Int) == 0) = false := beq_eq_false_iff_ne.2 (by omega)
  have hp : 0 < s.size := by omega
  have hpI : (0 : Int) < (s.size : Int) := by omega
  have HW : Hid (Within s 1 (s[0].toNat : Int) (s[0].toNat : Int)) := within_one hp
  go_enter Try.func5, Try.ntmps5
  go_wp2
  go_loop [3, 4, 5] (fun lo hi i => ∃ k : Nat, ∃ L H : Int, 1 ≤ k ∧ k ≤ s.size ∧ lo = .int .u8 L ∧ hi = .int .u8 H ∧ i = .int .i64 k ∧ Hid (Within s k L H)) (fun _ _ i => s.size - (intOf i).toNat)
  case atStart => exact ⟨1, _, _, by omega, by omega, rfl, rfl, rfl, HW⟩
  case round =>
    clear HW
    obtain ⟨k, L, H, hk1, hk, rfl, rfl, rfl, HK⟩ := hrel
    by_cases hlt : k < s.size
    · go_wp2
      · have h1 : (s[k].toNat : Int) < L := by assumption
        have h2 : H < (s[k].toNat : Int) := by assumption
        go_round
        case rel => exact ⟨k + 1, _, _, by omega, by omega, rfl, rfl, by go_num, within_step hlt HK.out (by rw [if_pos h1]) (by rw [if_pos h2])⟩
        case measure => simp [intOf]; omega
      · have h1 : (s[k].toNat : Int) < L := by assumption
        have h2 : (s[k].toNat : Int) ≤ H := by assumption
        go_round
        case rel => exact ⟨k + 1, _, _, by omega, by omega, rfl, rfl, by go_num, within_step hlt HK.out (by rw [if_pos h1]) (by rw [if_neg (by omega)])⟩
        case measure => simp [intOf]; omega
      · have h1 : L ≤ (s[k].toNat : Int) := by assumption
        have h2 : H < (s[k].toNat : Int) := by assumption
        go_round
        case rel => exact ⟨k + 1, _, _, by omega, by omega, rfl, rfl, by go_num, within_step hlt HK.out (by rw [if_neg (by omega)]) (by rw [if_pos h2])⟩
        case measure => simp [intOf]; omega
      · have h1 : L ≤ (s[k].toNat : Int) := by assumption
        have h2 : (s[k].toNat : Int) ≤ H := by assumption
        go_round
        case rel => exact ⟨k + 1, _, _, by omega, by omega, rfl, rfl, by go_num, within_step hlt HK.out (by rw [if_neg (by omega)]) (by rw [if_neg (by omega)])⟩
        case measure => simp [intOf]; omega
    · have hE := within_end (by omega) HK.out
      rw [Hv.out] at hE
      have HE : Hid ((decide (33 ≤ L) && decide (H ≤ 126)) = v) := hE
      clear hE HK
      go_wp2
      · have h1 : 33 ≤ L := by assumption
        have e := HE.out
        rw [decide_eq_true h1, Bool.true_and] at e
        subst e
        go_ret
        exact ⟨rfl, rfl⟩
      · have h1 : L < 33 := by assumption
        have e := HE.out
        rw [decide_eq_false (by omega), Bool.false_and] at e
        subst e
        go_ret
        exact ⟨rfl, rfl⟩

/-- What the bound on bytes comes to: some answer. -/
def BytesPost (w : World) (e : Ending) (w' : World) : Prop := ∃ b : Bool, e = .returned (.bool b) ∧ w' = w

set_option maxHeartbeats 400000 in
theorem bytes_any (s : ByteArray) (k : Int) (w : World) :
    Calls Try.prog 4 #[.string s, .int .i64 k] w (BytesPost w) := by
  by_cases h : (1048576 : Int) < s.size
  · go_enter Try.func4, Try.ntmps4
    go_wp2
    go_ret
    exact ⟨_, rfl, rfl⟩
  · go_enter Try.func4, Try.ntmps4
    go_wp2
    go_ret
    exact ⟨_, rfl, rfl⟩

theorem pr_is (v : Bool) (s : ByteArray) (w : World) (hv : Hid (prB s = v)) (hs : s.size ≤ 1048576) :
    Calls Try.prog 6 #[.string s] w fun e w' => e = .returned (.bool v) ∧ w' = w := by
  have h := zz_printable s w hs
  rw [hv.out] at h
  exact h

/-- THE PLAIN LAW: both pieces are printable just where the whole is. -/
theorem pr_cut (s : ByteArray) (k : Nat) (hk : k ≤ s.size) : (prB (s.extract 0 k) && prB (s.extract k s.size)) = prB s := by
  unfold prB
  have e1 : (s.extract 0 k).data.toList = s.data.toList.take k := by simp
  have e2 : (s.extract k s.size).data.toList = s.data.toList.drop k := by
    simp only [ByteArray.data_extract, Array.toList_extract]
    simp
    exact List.take_of_length_le (by simp)
  rw [e1, e2, ← List.all_append, List.take_append_drop]

set_option maxHeartbeats 1000000 in
theorem cut_walk (s : ByteArray) (k : Int) (w : World) (hs : s.size ≤ maxLen) :
    Calls Try.prog 3 #[.string s, .int .i64 k] w fun e w' => e = .returned (.bool true) ∧ w' = w := by
  go_enter Try.func3, Try.ntmps3
  go_wp2_with fail
  refine (bytes_any s k w).mono ?_
  rintro e w1 ⟨b, rfl, hw⟩
  subst w1
  cases b
  · go_wp2
    go_ret
    exact ⟨rfl, rfl⟩
  by_cases h1 : (1048576 : Int) < s.size
  · go_wp2
    go_ret
    exact ⟨rfl, rfl⟩
  by_cases h2 : k < 0
  · go_wp2
    go_ret
    exact ⟨rfl, rfl⟩
  by_cases h3 : (s.size : Int) < k
  · go_wp2
    go_ret
    exact ⟨rfl, rfl⟩
  obtain ⟨n, rfl⟩ := Int.eq_ofNat_of_zero_le (show 0 ≤ k by omega)
  have hn : n ≤ s.size := by omega
  have hnI : (n : Int) ≤ (s.size : Int) := by omega
  obtain ⟨v, Hv⟩ : ∃ v, Hid (prB s = v) := ⟨_, rfl⟩
  go_wp2_with fail
  refine (within_any s w (by omega)).mono ?_
  rintro e w1 ⟨rfl, hw⟩
  subst w1
  rw [Hv.out]
  go_wp2_with fail
  refine (zz_printable s w (by omega)).mono ?_
  rintro e w1 ⟨rfl, hw⟩
  subst w1
  rw [Hv.out]
  obtain ⟨vl, Hl⟩ : ∃ v, Hid (prB (s.extract 0 n) = v) := ⟨_, rfl⟩
  obtain ⟨vr, Hr⟩ : ∃ v, Hid (prB (s.extract n s.size) = v) := ⟨_, rfl⟩
  have hv : (vl && vr) = v := by rw [← Hl.out, ← Hr.out, ← Hv.out]; exact pr_cut s n hn
  have HC : Hid ((vl && vr) = v) := hv
  clear hv
  go_wp2_with fail
  refine (pr_is vl (s.extract 0 n) w Hl (by simp; omega)).mono ?_
  rintro e w1 ⟨rfl, hw⟩
  subst w1
  go_wp2_with fail
  refine (pr_is vr (s.extract n s.size) w Hr (by simp; omega)).mono ?_
  rintro e w1 ⟨rfl, hw⟩
  subst w1
  have e := HC.out
  subst e
  cases vl <;> cases vr
  all_goals
    go_wp2
    go_ret
    exact ⟨rfl, rfl⟩

end Go.Proofs.Qxb6618434a
