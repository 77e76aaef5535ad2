/-
  THE WALK OF FnMarshalJSONReadsBackAndNegates.
-/
import Derived.Test.Qxb6618375aRb
import Derived.Test.Qxb6618375aTz
namespace Go.Proofs.Qxb6618375a
open Go.RowKit
set_option linter.unusedVariables false

theorem rb_all (G coef s nd : Nat) (neg : Bool) (rv : List Int) (w : World) (hc : coef ≤ 9999999999999999999) (hs : s ≤ 19) (Hnd : Hid (IsNd (coef / 10 ^ s) nd)) (Hrv : Hid (rev coef s nd neg = rv)) (hT : IsB w G (quoted rv)) :
    Calls Try.prog 7 #[.slice (some ⟨G, 0, none⟩) (rv.length + 2) (rv.length + 2), .int .u64 coef, .int .u8 s, .bool neg] w fun e w' => e = .returned (.bool true) ∧ w' = w := by
  have e := Hrv.out
  subst e
  have hroom := nd_room hc hs Hnd.out
  have hnd1 := Hnd.out.1
  have hlen := rev_len' coef s nd neg
  by_cases h0 : s = 0
  · subst h0
    have hd : dt 0 = 0 := rfl
    cases neg
    · exact rb_zero_false G coef nd _ w hc Hnd (by rw [hlen, hd]; simp [ng]; omega) hnd1 (by omega) hT
    · exact rb_zero_true G coef nd _ w hc Hnd (by rw [hlen, hd]; simp [ng]; omega) hnd1 (by omega) hT
  · have hd : dt s = 1 := by simp [dt, h0]
    cases neg
    · exact rb_pos_false G coef s nd _ w hc (by omega) hs Hnd (by rw [hlen, hd]; simp [ng]; omega) hnd1 (by omega) hT
    · exact rb_pos_true G coef s nd _ w hc (by omega) hs Hnd (by rw [hlen, hd]; simp [ng]; omega) hnd1 (by omega) hT

theorem quoted_pos (c s nd : Nat) : quoted (rev c s nd false) = 34 :: ((body c s nd).reverse ++ [34]) := by simp [quoted, rev]
theorem quoted_neg (c s nd : Nat) : quoted (rev c s nd true) = 34 :: 45 :: ((body c s nd).reverse ++ [34]) := by simp [quoted, rev]

theorem flip_neg' (Ga Gb la lb n : Nat) (V : List Int) (w : World) (hla : la = n + 2) (hlb : lb = n + 1) (hn : V.length = n) (hn0 : 0 < n) (hn22 : n ≤ 30) (ha : IsB w Ga (34 :: 45 :: V)) (hb : IsB w Gb (34 :: V)) :
    Calls Try.prog 8 #[.slice (some ⟨Ga, 0, none⟩) la la, .slice (some ⟨Gb, 0, none⟩) lb lb, .bool true] w (ReadPost w) := by
  subst hla; subst hlb; exact flip_neg Ga Gb n V w hn hn0 hn22 ha hb
theorem flip_pos' (Ga Gb la lb n : Nat) (V : List Int) (w : World) (hla : la = n + 1) (hlb : lb = n + 2) (hn : V.length = n) (hn0 : 0 < n) (hn22 : n ≤ 30) (ha : IsB w Ga (34 :: V)) (hb : IsB w Gb (34 :: 45 :: V)) :
    Calls Try.prog 8 #[.slice (some ⟨Ga, 0, none⟩) la la, .slice (some ⟨Gb, 0, none⟩) lb lb, .bool false] w (ReadPost w) := by
  subst hla; subst hlb; exact flip_pos Ga Gb n V w hn hn0 hn22 ha hb

set_option maxRecDepth 100000 in
set_option maxHeartbeats 2000000 in
theorem rl_main_false (coef s nd bl : Nat) (rv rvo V : List Int) (w : World) (h1 : ¬ (10000000000000000000 : Int) ≤ coef) (h2 : ¬ (19 : Int) < s)
    (Hnd : Hid (IsNd (coef / 10 ^ s) nd)) (Hrv : Hid (rev coef s nd false = rv)) (Hrvo : Hid (rev coef s nd true = rvo)) (hl : rv.length ≤ 22) (hlo : rvo.length ≤ 22)
    (HV : Hid (V.length = bl + 1 ∧ quoted rv = 34 :: V ∧ quoted rvo = 34 :: 45 :: V ∧ rv.length = bl + 0 ∧ rvo.length = bl + 1)) :
    Calls Try.prog 3 #[.int .u64 coef, .int .u8 s, .bool false] w (LawPost w) := by
  go_enter Try.func3, Try.ntmps3
  go_wp2_with fail
  refine (new_any _ _ _ _).mono ?_
  rintro e w1 ⟨rfl, bel1⟩
  go_wp2_with fail
  have b02 := one_more bel1 (.cells #[.int .u64 coef, .int .u8 s, .bool false] 24)
  generalize w1.alloc (.cells #[.int .u64 coef, .int .u8 s, .bool false] 24) = w2 at *
  refine (marshal_any coef s nd false rv w2 (by omega) (by omega) Hnd Hrv hl).mono ?_
  rintro e w3 ⟨Ga, rfl, hIa, bel3⟩
  have b03 := b02.trans (bel3.mono b02.size)
  clear bel1 b02 bel3
  generalize w1.heap.size = B1 at *
  go_wp2_with fail
  refine (rb_all Ga coef s nd false rv w3 (by omega) (by omega) Hnd Hrv hIa).mono ?_
  rintro e w4 ⟨rfl, hw⟩
  subst w4
  cases h0 : ((coef : Int) == 0)
  rotate_left
  · go_wp2
    go_ret
    exact ⟨rfl, b03⟩
  go_wp2_with fail
  refine (new_any _ _ _ _).mono ?_
  rintro e w4 ⟨rfl, bel4⟩
  have hIa4 := hIa.below bel4
  have b04 := b03.trans (bel4.mono b03.size)
  clear bel4 b03 hIa
  go_wp2_with fail
  have b05 := one_more b04 (.cells #[.int .u64 coef, .int .u8 s, .bool true] 24)
  have hIa5 := hIa4.below (alloc_below w4 (.cells #[.int .u64 coef, .int .u8 s, .bool true] 24))
  generalize w4.alloc (.cells #[.int .u64 coef, .int .u8 s, .bool true] 24) = w5 at *
  refine (marshal_any coef s nd true rvo w5 (by omega) (by omega) Hnd Hrvo hlo).mono ?_
  rintro e w6 ⟨Gb, rfl, hIb, bel6⟩
  have hIa6 := hIa5.below bel6
  have b06 := b05.trans (bel6.mono b05.size)
  clear bel6 b05 hIa5 b04 hIa4
  generalize w4.heap.size = B4 at *
  go_wp2_with fail
  refine (flip_pos' Ga Gb (rv.length + 2) (rvo.length + 2) (bl + 1) V w6 (by have := HV.out.2.2.2; omega) (by have := HV.out.2.2.2; omega) HV.out.1 (by omega) (by have := HV.out.2.2.2; omega) (by rw [← HV.out.2.1]; exact hIa6) (by rw [← HV.out.2.2.1]; exact hIb)).mono ?_
  rintro e w7 ⟨rfl, t, rfl⟩
  go_wp2
  go_ret
  exact ⟨rfl, below_drewN b06 t⟩

set_option maxRecDepth 100000 in
set_option maxHeartbeats 2000000 in
theorem rl_main_true (coef s nd bl : Nat) (rv rvo V : List Int) (w : World) (h1 : ¬ (10000000000000000000 : Int) ≤ coef) (h2 : ¬ (19 : Int) < s) (h0 : ((coef : Int) == 0) = false)
    (Hnd : Hid (IsNd (coef / 10 ^ s) nd)) (Hrv : Hid (rev coef s nd true = rv)) (Hrvo : Hid (rev coef s nd false = rvo)) (hl : rv.length ≤ 22) (hlo : rvo.length ≤ 22)
    (HV : Hid (V.length = bl + 1 ∧ quoted rv = 34 :: 45 :: V ∧ quoted rvo = 34 :: V ∧ rv.length = bl + 1 ∧ rvo.length = bl + 0)) :
    Calls Try.prog 3 #[.int .u64 coef, .int .u8 s, .bool true] w (LawPost w) := by
  go_enter Try.func3, Try.ntmps3
  go_wp2_with fail
  refine (new_any _ _ _ _).mono ?_
  rintro e w1 ⟨rfl, bel1⟩
  go_wp2_with fail
  have b02 := one_more bel1 (.cells #[.int .u64 coef, .int .u8 s, .bool true] 24)
  generalize w1.alloc (.cells #[.int .u64 coef, .int .u8 s, .bool true] 24) = w2 at *
  refine (marshal_any coef s nd true rv w2 (by omega) (by omega) Hnd Hrv hl).mono ?_
  rintro e w3 ⟨Ga, rfl, hIa, bel3⟩
  have b03 := b02.trans (bel3.mono b02.size)
  clear bel1 b02 bel3
  generalize w1.heap.size = B1 at *
  go_wp2_with fail
  refine (rb_all Ga coef s nd true rv w3 (by omega) (by omega) Hnd Hrv hIa).mono ?_
  rintro e w4 ⟨rfl, hw⟩
  subst w4
  go_wp2_with fail
  refine (new_any _ _ _ _).mono ?_
  rintro e w4 ⟨rfl, bel4⟩
  have hIa4 := hIa.below bel4
  have b04 := b03.trans (bel4.mono b03.size)
  clear bel4 b03 hIa
  go_wp2_with fail
  have b05 := one_more b04 (.cells #[.int .u64 coef, .int .u8 s, .bool false] 24)
  have hIa5 := hIa4.below (alloc_below w4 (.cells #[.int .u64 coef, .int .u8 s, .bool false] 24))
  generalize w4.alloc (.cells #[.int .u64 coef, .int .u8 s, .bool false] 24) = w5 at *
  refine (marshal_any coef s nd false rvo w5 (by omega) (by omega) Hnd Hrvo hlo).mono ?_
  rintro e w6 ⟨Gb, rfl, hIb, bel6⟩
  have hIa6 := hIa5.below bel6
  have b06 := b05.trans (bel6.mono b05.size)
  clear bel6 b05 hIa5 b04 hIa4
  generalize w4.heap.size = B4 at *
  go_wp2_with fail
  refine (flip_neg' Ga Gb (rv.length + 2) (rvo.length + 2) (bl + 1) V w6 (by have := HV.out.2.2.2; omega) (by have := HV.out.2.2.2; omega) HV.out.1 (by omega) (by have := HV.out.2.2.2; omega) (by rw [← HV.out.2.1]; exact hIa6) (by rw [← HV.out.2.2.1]; exact hIb)).mono ?_
  rintro e w7 ⟨rfl, t, rfl⟩
  go_wp2
  go_ret
  exact ⟨rfl, below_drewN b06 t⟩

set_option maxRecDepth 100000 in
set_option maxHeartbeats 2000000 in
theorem rl_walk (coef s : Nat) (neg : Bool) (w : World) :
    Calls Try.prog 3 #[.int .u64 coef, .int .u8 s, .bool neg] w (LawPost w) := by
  by_cases h1 : (10000000000000000000 : Int) ≤ coef
  · go_enter Try.func3, Try.ntmps3
    go_wp2
    go_ret
    exact LawPost.same
  by_cases h2 : (19 : Int) < s
  · go_enter Try.func3, Try.ntmps3
    go_wp2
    go_ret
    exact LawPost.same
  by_cases h5 : neg = true ∧ coef = 0
  · obtain ⟨rfl, rfl⟩ := h5
    go_enter Try.func3, Try.ntmps3
    go_wp2
    go_ret
    exact LawPost.same
  have h6 : neg = true → ((coef : Int) == 0) = false := fun hn => beq_eq_false_iff_ne.2 (fun e => h5 ⟨hn, by omega⟩)
  have hcs : coef / 10 ^ s < 10000000000000000000 := Nat.lt_of_le_of_lt (Nat.div_le_self _ _) (by omega)
  obtain ⟨nd, hnd⟩ := isNd_ex (coef / 10 ^ s) hcs
  have hroom := nd_room (by omega) (by omega) hnd
  have hl : ∀ b, (rev coef s nd b).length ≤ 22 := fun b => by rw [rev_len]; split <;> omega
  cases neg
  · exact rl_main_false coef s nd (s + dt s + nd) _ _ ((body coef s nd).reverse ++ [34]) w h1 h2 hnd rfl rfl (hl _) (hl _) ⟨by simp [body_len'], quoted_pos _ _ _, quoted_neg _ _ _, by rw [rev_len]; simp, by rw [rev_len]; simp⟩
  · exact rl_main_true coef s nd (s + dt s + nd) _ _ ((body coef s nd).reverse ++ [34]) w h1 h2 (h6 rfl) hnd rfl rfl (hl _) (hl _) ⟨by simp [body_len'], quoted_neg _ _ _, quoted_pos _ _ _, by rw [rev_len]; simp, by rw [rev_len]; simp⟩
end Go.Proofs.Qxb6618375a
