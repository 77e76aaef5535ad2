/-
  THE WALK OF FnSameStartPadRecurrence.
-/
import Derived.Test.Qxb6618418aShare
import Derived.Deep.QuietTactic
import Derived.BigQuiet
import Derived.Deep.RegionWith
namespace Go.Proofs.Qxb6618418a
open Go.RowKit
set_option linter.unusedVariables false

set_option maxHeartbeats 400000 in
theorem alike_is (x y : Int) (v : Bool) (w : World) (h : alikeB x y = v) : Calls Try.prog 8 #[.int .u8 x, .int .u8 y] w fun e w' => e = .returned (.bool v) ∧ w' = w := by
  rw [← h]
  unfold alikeB
  cases hxy : (x == y)
  · cases hdx : digB x
    · go_enter Try.func8, Try.ntmps8
      go_wp2_with (first | (go_at_call_of 12 x; refine (isDig_is x false _ hdx).mono ?_; rintro e w2 ⟨rfl, rfl⟩))
      go_ret
      exact ⟨rfl, rfl⟩
    · go_enter Try.func8, Try.ntmps8
      go_wp2_with fail
      refine (isDig_is x true _ hdx).mono ?_
      rintro e w2 ⟨rfl, hw⟩
      subst w2
      go_wp2_with fail
      refine (isDig_any y _).mono ?_
      rintro e w2 ⟨rfl, hw⟩
      subst w2
      go_wp2
      go_ret
      exact ⟨rfl, rfl⟩
  · go_enter Try.func8, Try.ntmps8
    go_wp2
    go_ret
    exact ⟨rfl, rfl⟩

theorem run_first {zs ys : List Int} {x y : Int} (hx : zs[0]? = some x) (hy : ys[0]? = some y) (h : alikeB x y = false) : run zs ys = 0 := by
  cases zs with
  | nil => simp at hx
  | cons a l =>
    cases ys with
    | nil => simp at hy
    | cons b m =>
      simp at hx hy
      subst hx; subst hy
      simp [run, h]
theorem cons_of {zs : List Int} {x : Int} (hx : zs[0]? = some x) : ∃ t, zs = x :: t := by
  cases zs with
  | nil => simp at hx
  | cons a l => simp at hx; subst hx; exact ⟨l, rfl⟩

theorem isS_tail {w : World} {p o n : Nat} {x : Int} {t : List Int} (h : IsS w (some ⟨p, o, none⟩) (n + 1) (x :: t)) {A : Option Addr} (hA : 0 < n → A = some ⟨p, o + 1, none⟩) : IsS w A n t := by
  refine ⟨by have := h.1; simpa using this, fun h0 => ?_, fun z hz => h.2.2 z (List.mem_cons_of_mem _ hz)⟩
  obtain ⟨b, off, hx, hB, hR⟩ := h.2.1 (by omega)
  injection hx with hx
  injection hx with hx1 hx2
  subst hx1; subst hx2
  refine ⟨p, o + 1, hA h0, hB, fun i hi => ?_⟩
  have := hR (i + 1) (by simpa using hi)
  rw [show o + 1 + i = o + (i + 1) from by omega]
  simpa using this
theorem undrew {B : Nat} {w w' : World} (h : Below B w.drew w') : Below B w w' := ⟨h.os, h.tape, h.output, h.size, h.block⟩

theorem ret_eq {a b : Int} (h : a = b) : Ending.returned (.bool (a == b)) = .returned (.bool true) := by simp [h]

theorem isS_none {w : World} {n : Nat} {zs : List Int} (h : IsS w none n zs) : n = 0 := by
  rcases Nat.eq_zero_or_pos n with h0 | h0
  · exact h0
  · obtain ⟨b, off, hx, _⟩ := h.2.1 h0
    cases hx

theorem ss_pad {zs ys : List Int} {Q : Nat} (h : run zs ys = Q) : ss (113 :: 113 :: 113 :: 113 :: zs) (113 :: 113 :: 113 :: 113 :: ys) = Q + 4 := by
  have ha : alikeB 113 113 = true := by simp [alikeB]
  have e : run (113 :: 113 :: 113 :: 113 :: zs) (113 :: 113 :: 113 :: 113 :: ys) = Q + 4 := by simp [run, ha, h]
  unfold ss
  rw [e, if_neg (by omega)]

set_option maxRecDepth 100000 in
set_option maxHeartbeats 4000000 in
theorem pad_walk (a : Option Addr) (la ca : Nat) (zs : List Int) (b : Option Addr) (lb cb : Nat) (ys : List Int) (w : World) (hz : IsS w a la zs) (hy : IsS w b lb ys) :
    Calls Try.prog 3 #[.slice a la ca, .slice b lb cb] w (LawPost w) := by
  obtain ⟨i0, hi, hi0, hi1, hi2⟩ := info_parts Try.info5
  go_enter Try.func3, Try.ntmps3
  go_wp2_with fail
  refine (bytes5 a la ca b lb cb w).mono ?_
  rintro e w1 ⟨bt, rfl, hw⟩
  subst w1
  cases bt
  · go_wp2
    go_ret
    exact ⟨rfl, Below.refl _ _⟩
  by_cases hl1 : (524288 : Int) < la
  · go_wp2
    go_ret
    exact ⟨rfl, Below.refl _ _⟩
  by_cases hl2 : (524288 : Int) < lb
  · go_wp2
    go_ret
    exact ⟨rfl, Below.refl _ _⟩
  go_upto_if 25 with fail
  go_cut [0] (fun v wx => ∃ a' c', v = .slice a' la c' ∧ la ≤ c' ∧ Hid (IsS wx a' la zs) ∧ Hid (IsS wx b lb ys) ∧ Below w.heap.size w wx)
  case first =>
    cases a with
    | none =>
      go_wp2
      go_meet
      exact ⟨none, ca, rfl, by have := isS_none hz; omega, hz, hy, Below.refl _ _⟩
    | some x =>
      go_wp2_with (first
        | (at_make; refine wpList_make_full _ rfl _ _ 22 rfl w.heap.size 5 i0 _ 1 Try.underlying22 hi hi0 hi1 _ _ _ _ la rfl rfl rfl rfl (by rw [hi2]; omega) (by unfold maxLen; omega) (Nat.le_refl _) ?_; intro w1 hown hgr; obtain ⟨cur, hcur, hlen⟩ := own_cells hown; have b1 : Below w.heap.size w w1 := (Below.refl _ _).grown hgr (Nat.le_refl _) (by simp))
        | (refine wpList_copy_splice rfl (.tmp 29) (.tmp 30) 22 22 rfl 5 Try.underlying22 Try.size5 _ _ la la la ca rfl rfl w.heap.size 0 cur 5 hcur (zs.map (Value.int .u8)) (by simp [hz.1]) (src_cells hz b1 _) (by simp [hz.1]; omega) (bytes_one _) w.heap.size w b1 (Nat.le_refl _) ?_; intro w2 HC b2))
      go_meet
      exact ⟨_, _, rfl, Nat.le_refl _, copied HC hlen hz.1 hz.2.2, hy.below b2, b2⟩
  case rest =>
    obtain ⟨a', c', rfl, hlc, HZ, HY, bel⟩ := hcut
    obtain ⟨w3, rfl⟩ : ∃ w3 : World, w3 = wc := ⟨_, rfl⟩
    clear hz hy
    go_upto_if 34 with fail
    go_cut [1] (fun v wx => ∃ b' d', v = .slice b' lb d' ∧ lb ≤ d' ∧ Hid (IsS wx a' la zs) ∧ Hid (IsS wx b' lb ys) ∧ Below w.heap.size w wx)
    case first =>
      cases b with
      | none =>
        go_wp2
        go_meet
        exact ⟨none, cb, rfl, by have := isS_none HY.out; omega, HZ, HY, bel⟩
      | some x =>
        have hy := HY.out
        go_wp2_with (first
          | (at_make; refine wpList_make_full _ rfl _ _ 22 rfl w3.heap.size 5 i0 _ 1 Try.underlying22 hi hi0 hi1 _ _ _ _ lb rfl rfl rfl rfl (by rw [hi2]; omega) (by unfold maxLen; omega) (Nat.le_refl _) ?_; intro w1 hown hgr; obtain ⟨cur, hcur, hlen⟩ := own_cells hown; have b1 : Below w3.heap.size w3 w1 := (Below.refl _ _).grown hgr (Nat.le_refl _) (by simp))
          | (refine wpList_copy_splice rfl (.tmp 38) (.tmp 39) 22 22 rfl 5 Try.underlying22 Try.size5 _ _ lb lb lb cb rfl rfl w3.heap.size 0 cur 5 hcur (ys.map (Value.int .u8)) (by simp [hy.1]) (src_cells hy b1 _) (by simp [hy.1]; omega) (bytes_one _) w3.heap.size w3 b1 (Nat.le_refl _) ?_; intro w2 HC b2))
        go_meet
        exact ⟨_, _, rfl, Nat.le_refl _, HZ.out.below b2, copied HC hlen hy.1 hy.2.2, bel.trans (b2.mono bel.size)⟩
    case rest =>
      clear HZ HY bel
      obtain ⟨b', d', rfl, hld, HZ, HY, bel⟩ := hcut
      obtain ⟨w4, rfl⟩ : ∃ w4 : World, w4 = wc := ⟨_, rfl⟩
      obtain ⟨R, HR⟩ : ∃ R, Hid (ss zs ys = R) := ⟨_, rfl⟩
      clear hi hi0 hi1 hi2
      go_wp2_with fail
      refine (zz_is R a' la c' zs b' lb d' ys w4 HR.out (by omega) (by omega) HZ.out HY.out).mono ?_
      rintro e w5 ⟨rfl, t5, rfl⟩
      go_wp2_with fail
      obtain ⟨w6, hw6⟩ : ∃ w6 : World, w6 = w4.drewN t5 := ⟨_, rfl⟩
      have hz6 : IsS w6 a' la zs := by rw [hw6]; exact HZ.out.drewN _
      have hy6 : IsS w6 b' lb ys := by rw [hw6]; exact HY.out.drewN _
      have b6 : Below w.heap.size w w6 := by rw [hw6]; exact below_drewN bel _
      rw [← hw6]
      clear hw6 HZ HY bel
      refine (padded_any a' la c' zs w6 (by omega) hz6).mono ?_
      rintro e w7 ⟨B7, rfl, hp7, b7⟩
      have hz7 := hz6.below b7
      have hy7 := hy6.below b7
      have b07 := b6.trans (b7.mono b6.size)
      clear hz6 hy6 b7 b6
      go_wp2_with fail
      refine (padded_any b' lb d' ys w7 (by omega) hy7).mono ?_
      rintro e w8 ⟨B8, rfl, hq8, b8⟩
      have hz8 := hz7.below b8
      have hy8 := hy7.below b8
      have hp8 := hp7.below b8
      have b08 := b07.trans (b8.mono b07.size)
      clear hz7 hy7 b8 b07 hp7
      obtain ⟨Q, HQ⟩ : ∃ Q, Hid (run zs ys = Q) := ⟨_, rfl⟩
      have hQ := run_le zs ys
      rw [HQ.out, hz8.1, hy8.1] at hQ
      go_wp2_with fail
      refine (zz_is (Q + 4) _ (la + 4) (la + 4) _ _ (lb + 4) (lb + 4) _ w8 (ss_pad HQ.out) (by omega) (by omega) hp8 hq8).mono ?_
      rintro e w9 ⟨rfl, t9, rfl⟩
      have hRQ : (Q < 4 ∧ R = 0) ∨ (4 ≤ Q ∧ Q = R) := by
        have := HR.out
        unfold ss at this
        rw [HQ.out] at this
        split at this <;> omega
      obtain ⟨w10, hw10⟩ : ∃ w10 : World, w10 = w8.drewN t9 := ⟨_, rfl⟩
      have hz10 : IsS w10 a' la zs := by rw [hw10]; exact hz8.drewN _
      have hy10 : IsS w10 b' lb ys := by rw [hw10]; exact hy8.drewN _
      have b10 : Below w.heap.size w w10 := by rw [hw10]; exact below_drewN b08 _
      rw [← hw10]
      clear hw10 hz8 hy8 b08 hp8 hq8
      go_upto_if 53 with fail
      go_cut [10] (fun v wx => v = .int .i64 R ∧ w10 = wx)
      case first =>
        rcases hRQ with ⟨hq4, rfl⟩ | ⟨hq4, rfl⟩
        · go_wp2
          go_meet
          exact ⟨rfl, rfl⟩
        · have hq4I : (4 : Int) ≤ (Q : Int) := by omega
          go_wp2
          go_meet
          exact ⟨rfl, rfl⟩
      case rest =>
      obtain ⟨rfl, rfl⟩ := hcut
      clear HR hRQ
      by_cases ha0 : la = 0
      · have hQ0 : Q = 0 := by omega
        subst hQ0
        have hd : decide ((0 : Int) < (la : Int)) = false := decide_eq_false (by omega)
        go_wp2_with fail
        go_quiet (fail)
        go_wp2
        go_ret
        exact ⟨rfl, below_drewN b10 _⟩
      by_cases hb0 : lb = 0
      · have hQ0 : Q = 0 := by omega
        subst hQ0
        have hd1 : (0 : Int) < (la : Int) := by omega
        have hd1n : 0 < la := by omega
        have hd2n : decide (0 < lb) = false := decide_eq_false (by omega)
        have hd2 : decide ((0 : Int) < (lb : Int)) = false := decide_eq_false (by omega)
        go_wp2_with fail
        go_quiet (fail)
        go_wp2
        go_ret
        exact ⟨rfl, below_drewN b10 _⟩
      obtain ⟨p1, o1, x, rfl, hp1, hx, cx, x0, x1⟩ := hz10.at (k := 0) (by omega)
      obtain ⟨p2, o2, y, rfl, hp2, hy', cy, y0, y1⟩ := hy10.at (k := 0) (by omega)
      simp only [Nat.add_zero] at cx cy
      have hd1 : (0 : Int) < (la : Int) := by omega
      have hd2 : (0 : Int) < (lb : Int) := by omega
      have hd1n : 0 < la := by omega
      have hd2n : 0 < lb := by omega
      cases hal : alikeB x y
      · have hQ0 : Q = 0 := by rw [← HQ.out]; exact run_first hx hy' hal
        subst hQ0
        clear hx hy'
        go_wp2_with fail
        go_quiet ((go_at_call 8; exact Calls.quiet_of_same (alike_is _ _ _ _ hal)))
        go_wp2
        go_ret
        exact ⟨rfl, below_drewN b10 _⟩
      · obtain ⟨zs', rfl⟩ : ∃ t, zs = x :: t := cons_of hx
        obtain ⟨ys', rfl⟩ : ∃ t, ys = y :: t := cons_of hy'
        obtain ⟨q, rfl⟩ : ∃ q, Q = q + 1 := ⟨run zs' ys', by rw [← HQ.out]; simp [run, hal]⟩
        have HQ' : Hid (run zs' ys' = q) := by have := HQ.out; simp [run, hal] at this; exact this
        clear hx hy' HQ
        go_wp2_with fail
        go_quiet ((go_at_call 8; exact Calls.quiet_of_same (alike_is _ _ _ _ hal)))
        go_wp2_with fail
        obtain ⟨w11, hw11⟩ : ∃ w11 : World, w11 = w10.drewN nq := ⟨_, rfl⟩
        have hz11 : IsS w11 (some ⟨p1, o1, none⟩) la (x :: zs') := by rw [hw11]; exact hz10.drewN _
        have hy11 : IsS w11 (some ⟨p2, o2, none⟩) lb (y :: ys') := by rw [hw11]; exact hy10.drewN _
        have b11 : Below w.heap.size w w11 := by rw [hw11]; exact below_drewN b10 _
        rw [← hw11]
        clear hw11 hz10 hy10 b10 cx cy
        obtain ⟨n1, rfl⟩ : ∃ n, la = n + 1 := ⟨la - 1, by omega⟩
        obtain ⟨n2, rfl⟩ : ∃ n, lb = n + 1 := ⟨lb - 1, by omega⟩
        have HS : Hid (ss (113 :: 113 :: 113 :: 113 :: zs') (113 :: 113 :: 113 :: 113 :: ys') = q + 4) := ss_pad HQ'.out
        have s1 : (1 : Int) ≤ (n1 : Int) + 1 := by omega
        have s2 : (1 : Int) ≤ (n2 : Int) + 1 := by omega
        have tokA : True := trivial
        by_cases hc1 : c' = 1
        all_goals
          by_cases hd1' : d' = 1
          all_goals
            have HA : Hid (∀ A : Option Addr, (0 < n1 → A = some ⟨p1, o1 + 1, none⟩) → IsS w11 A n1 zs') := fun A hA => isS_tail hz11 hA
            have HB : Hid (∀ A : Option Addr, (0 < n2 → A = some ⟨p2, o2 + 1, none⟩) → IsS w11 A n2 ys') := fun A hA => isS_tail hy11 hA
            have lh : n1 ≤ 524288 ∧ n2 ≤ 524288 := by omega
            clear hz11 hy11
            go_region_with (first
              | (go_at_call 7; have _t := tokA; refine (padded_any _ n1 _ zs' _ (by omega) (by exact HA.out _ (by intro h; first | rfl | omega))).mono ?_; rintro e w12 ⟨B12, rfl, hp12, b12⟩; have b12' := undrew b12; have HB2 : Hid (∀ A : Option Addr, (0 < n2 → A = some ⟨p2, o2 + 1, none⟩) → IsS w12 A n2 ys') := (fun A hA => (HB.out A hA).below b12'); have b012 := b11.trans (b12'.mono b11.size); clear tokA)
              | (go_at_call 7; refine (padded_any _ n2 _ ys' _ (by omega) (by exact HB2.out _ (by intro h; first | rfl | omega))).mono ?_; rintro e w13 ⟨B13, rfl, hq13, b13⟩; have hp13 := hp12.below b13; have b013 := b012.trans (b13.mono b012.size))
              | (go_at_call 6; refine (zz_is (q + 4) _ (n1 + 4) (n1 + 4) _ _ (n2 + 4) (n2 + 4) _ _ HS.out (by omega) (by omega) (by exact hp13) (by exact hq13)).mono ?_; rintro e w14 ⟨rfl, t14, rfl⟩))
            all_goals
              go_wp2
              go_ret
              exact ⟨ret_eq (by omega), below_drewN b013 _⟩
end Go.Proofs.Qxb6618418a
