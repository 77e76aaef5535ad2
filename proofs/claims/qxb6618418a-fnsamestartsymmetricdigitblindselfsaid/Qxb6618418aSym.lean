/-
  THE WALK OF FnSameStartSymmetricDigitBlindSelf.
-/
import Derived.Test.Qxb6618418aShare
namespace Go.Proofs.Qxb6618418a
open Go.RowKit
set_option linter.unusedVariables false

set_option maxRecDepth 100000 in
set_option maxHeartbeats 1000000 in
theorem sym_walk (a : Option Addr) (la ca : Nat) (zs : List Int) (b : Option Addr) (lb cb : Nat) (ys : List Int) (w : World) (hz : IsS w a la zs) (hy : IsS w b lb ys) :
    Calls Try.prog 4 #[.slice a la ca, .slice b lb cb] w (LawPost w) := by
  obtain ⟨i0, hi, hi0, hi1, hi2⟩ := info_parts Try.info5
  go_enter Try.func4, Try.ntmps4
  go_wp2_with fail
  refine (bytes9 a la ca b lb cb w).mono ?_
  rintro e w1 ⟨bt, rfl, hw⟩
  subst w1
  cases bt
  · go_wp2
    go_ret
    exact ⟨rfl, Below.refl _ _⟩
  by_cases hl1 : (524288 : Int) < la
  · go_wp2
    go_ret
    exact ⟨rfl, Below.refl _ _⟩
  by_cases hl2 : (524288 : Int) < lb
  · go_wp2
    go_ret
    exact ⟨rfl, Below.refl _ _⟩
  go_upto_if 22 with fail
  go_cut [0] (fun v wx => ∃ a' c', v = .slice a' la c' ∧ Hid (IsS wx a' la zs) ∧ Hid (IsS wx b lb ys) ∧ Below w.heap.size w wx)
  case first =>
    cases a with
    | none =>
      go_wp2
      go_meet
      exact ⟨none, ca, rfl, hz, hy, Below.refl _ _⟩
    | some x =>
      go_wp2_with (first
        | (at_make; refine wpList_make_full _ rfl _ _ 22 rfl w.heap.size 5 i0 _ 1 Try.underlying22 hi hi0 hi1 _ _ _ _ la rfl rfl rfl rfl (by rw [hi2]; omega) (by unfold maxLen; omega) (Nat.le_refl _) ?_; intro w1 hown hgr; obtain ⟨cur, hcur, hlen⟩ := own_cells hown; have b1 : Below w.heap.size w w1 := (Below.refl _ _).grown hgr (Nat.le_refl _) (by simp))
        | (refine wpList_copy_splice rfl (.tmp 26) (.tmp 27) 22 22 rfl 5 Try.underlying22 Try.size5 _ _ la la la ca rfl rfl w.heap.size 0 cur 5 hcur (zs.map (Value.int .u8)) (by simp [hz.1]) (src_cells hz b1 _) (by simp [hz.1]; omega) (bytes_one _) w.heap.size w b1 (Nat.le_refl _) ?_; intro w2 HC b2))
      go_meet
      exact ⟨_, _, rfl, copied HC hlen hz.1 hz.2.2, hy.below b2, b2⟩
  case rest =>
    obtain ⟨a', c', rfl, HZ, HY, bel⟩ := hcut
    obtain ⟨w3, rfl⟩ : ∃ w3 : World, w3 = wc := ⟨_, rfl⟩
    clear hz hy
    go_upto_if 31 with fail
    go_cut [1] (fun v wx => ∃ b' d', v = .slice b' lb d' ∧ Hid (IsS wx a' la zs) ∧ Hid (IsS wx b' lb ys) ∧ Below w.heap.size w wx)
    case first =>
      cases b with
      | none =>
        go_wp2
        go_meet
        exact ⟨none, cb, rfl, HZ, HY, bel⟩
      | some x =>
        have hy := HY.out
        go_wp2_with (first
          | (at_make; refine wpList_make_full _ rfl _ _ 22 rfl w3.heap.size 5 i0 _ 1 Try.underlying22 hi hi0 hi1 _ _ _ _ lb rfl rfl rfl rfl (by rw [hi2]; omega) (by unfold maxLen; omega) (Nat.le_refl _) ?_; intro w1 hown hgr; obtain ⟨cur, hcur, hlen⟩ := own_cells hown; have b1 : Below w3.heap.size w3 w1 := (Below.refl _ _).grown hgr (Nat.le_refl _) (by simp))
          | (refine wpList_copy_splice rfl (.tmp 35) (.tmp 36) 22 22 rfl 5 Try.underlying22 Try.size5 _ _ lb lb lb cb rfl rfl w3.heap.size 0 cur 5 hcur (ys.map (Value.int .u8)) (by simp [hy.1]) (src_cells hy b1 _) (by simp [hy.1]; omega) (bytes_one _) w3.heap.size w3 b1 (Nat.le_refl _) ?_; intro w2 HC b2))
        go_meet
        exact ⟨_, _, rfl, HZ.out.below b2, copied HC hlen hy.1 hy.2.2, bel.trans (b2.mono bel.size)⟩
    case rest =>
      clear HZ HY bel
      obtain ⟨b', d', rfl, HZ, HY, bel⟩ := hcut
      obtain ⟨w4, rfl⟩ : ∃ w4 : World, w4 = wc := ⟨_, rfl⟩
      obtain ⟨R, HR⟩ : ∃ R, Hid (ss zs ys = R) := ⟨_, rfl⟩
      clear hi hi0 hi1 hi2
      go_wp2_with fail
      refine (zz_is R a' la c' zs b' lb d' ys w4 HR.out (by omega) (by omega) HZ.out HY.out).mono ?_
      rintro e w5 ⟨rfl, t5, rfl⟩
      go_wp2_with fail
      refine (zz_is R b' lb d' ys a' la c' zs _ (by rw [ss_symm]; exact HR.out) (by omega) (by omega) (HY.out.drewN _) (HZ.out.drewN _)).mono ?_
      rintro e w6 ⟨rfl, t6, rfl⟩
      go_wp2_with fail
      obtain ⟨w6, hw6⟩ : ∃ w6 : World, w6 = w4.drewN (t5 + t6) := ⟨_, rfl⟩
      have hz6 : IsS w6 a' la zs := by rw [hw6]; exact HZ.out.drewN _
      have hy6 : IsS w6 b' lb ys := by rw [hw6]; exact HY.out.drewN _
      have b6 : Below w.heap.size w w6 := by rw [hw6]; exact below_drewN bel _
      rw [← hw6]
      clear hw6 HZ HY bel
      refine (zeroD_any a' la c' zs w6 (by omega) hz6).mono ?_
      rintro e w7 ⟨B7, rfl, hp7, b7⟩
      have hz7 := hz6.below b7
      have hy7 := hy6.below b7
      have b07 := b6.trans (b7.mono b6.size)
      clear hz6 hy6 b7 b6
      go_wp2_with fail
      refine (zeroD_any b' lb d' ys w7 (by omega) hy7).mono ?_
      rintro e w8 ⟨B8, rfl, hq8, b8⟩
      have hz8 := hz7.below b8
      have hp8 := hp7.below b8
      have b08 := b07.trans (b8.mono b07.size)
      clear hz7 hy7 b8 b07 hp7
      go_wp2_with fail
      refine (zz_is R _ la la (zs.map zd) _ lb lb (ys.map zd) w8 (by rw [ss_zd]; exact HR.out) (by omega) (by omega) hp8 hq8).mono ?_
      rintro e w9 ⟨rfl, t9, rfl⟩
      by_cases h4 : (4 : Int) ≤ la
      · go_wp2_with fail
        refine (zz_is la a' la c' zs a' la c' zs _ (by unfold ss; rw [run_self, hz8.1, if_neg (by omega)]) (by omega) (by omega) (hz8.drewN _) (hz8.drewN _)).mono ?_
        rintro e w10 ⟨rfl, t10, rfl⟩
        go_wp2
        go_ret
        exact ⟨rfl, below_drewN b08 _⟩
      · go_wp2_with fail
        refine (zz_is 0 a' la c' zs a' la c' zs _ (by unfold ss; rw [run_self, hz8.1, if_pos (by omega)]) (by omega) (by omega) (hz8.drewN _) (hz8.drewN _)).mono ?_
        rintro e w10 ⟨rfl, t10, rfl⟩
        go_wp2
        go_ret
        exact ⟨rfl, below_drewN b08 _⟩
end Go.Proofs.Qxb6618418a
