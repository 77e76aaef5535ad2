/-
  THE WALK OF 'FnNamedSpec'.
-/
import Derived.Test.Qxb6618336aShare
import Derived.Deep.RegionWith
namespace Go.Proofs.Qxb6618336a
open Go.RowKit
set_option linter.unusedVariables false

section
variable {g nm : ByteArray} {rs : List R} {k : Nat} {r : R} {q : R × Bool}
theorem hit_skip (hr : rs[k]? = some r) (hH : Hid (hit g nm (rs.drop k) = hit g nm rs)) (h : nameIs r nm = false ∨ (r.g.toList == g.toList) = false) : Hid (hit g nm (rs.drop (k + 1)) = hit g nm rs) := by
  have := hH.out
  rw [drop_of hr] at this
  unfold Hid
  rw [← this]
  have hf : (nameIs r nm && r.g.toList == g.toList) = false := by
    rcases h with h | h <;> simp [h]
  simp [hit, hf]
theorem hit_here (hr : rs[k]? = some r) (hH : Hid (hit g nm (rs.drop k) = hit g nm rs)) (h : nameIs r nm = true) (h2 : (r.g.toList == g.toList) = true) (hq : Hid (namedF g nm zeroR false rs = q)) : q = (r, true) := by
  have := hH.out
  rw [drop_of hr] at this
  have hf : (nameIs r nm && r.g.toList == g.toList) = true := by simp [h, h2]
  have hs : hit g nm rs = some r := by rw [← this]; simp [hit, hf]
  rw [← hq.out]
  exact named_hit hs
theorem any_skip (hr : rs[k]? = some r) (hH : Hid (anyOf nm (rs.drop k) = anyOf nm rs)) (h : nameIs r nm = false) : Hid (anyOf nm (rs.drop (k + 1)) = anyOf nm rs) := by
  have := hH.out
  rw [drop_of hr] at this
  unfold Hid
  rw [← this]
  simp [anyOf, h]
theorem any_here (hr : rs[k]? = some r) (hH : Hid (anyOf nm (rs.drop k) = anyOf nm rs)) (h : nameIs r nm = true) : anyOf nm rs = some r := by
  have := hH.out
  rw [drop_of hr] at this
  rw [← this]
  simp [anyOf, h]
theorem none_other (h : hit g nm rs = none) (h2 : g.toList.isEmpty = false) (hq : Hid (namedF g nm zeroR false rs = q)) : q = (zeroR, false) := by
  rw [← hq.out, namedF_eq, h, h2]; rfl
theorem none_none (h : hit g nm rs = none) (h2 : anyOf nm rs = none) (hq : Hid (namedF g nm zeroR false rs = q)) : q = (zeroR, false) := by
  rw [← hq.out, namedF_eq, h, h2]; simp
theorem none_any (h : hit g nm rs = none) (h2 : g.toList.isEmpty = true) (h3 : anyOf nm rs = some r) (hq : Hid (namedF g nm zeroR false rs = q)) : q = (r, true) := by
  rw [← hq.out, namedF_eq, h, h2, h3]; rfl
end

theorem nameIs_at (g v p s k : ByteArray) (n : Bool) (nm : ByteArray) (w : World) :
    Calls Try.prog 9 #[.agg #[.string g, .string v, .string p, .string s, .string k, .bool n], .string nm] w fun e w' => e = .returned (.bool (nameIs ⟨g, v, p, s, k, n⟩ nm)) ∧ Below w.heap.size w w' := nameIs_any ⟨g, v, p, s, k, n⟩ nm w

theorem spec_facts {w0 w4 : World} {len : Nat} {a : Option Addr} {rs : List R} (bel : Below w0.heap.size w0 w4) (hz : IsZ w4 a len rs) (g v p s k : ByteArray) (f : Bool) :
    ∃ w5, w4.alloc (.cells #[.string g, .string v, .string p, .string s, .string k, .bool f] 29) = w5 ∧ Below w0.heap.size w0 w5 ∧ Box w5 w4.heap.size ⟨g, v, p, s, k, f⟩ ∧ IsZ w5 a len rs := by
  have belA : Below w4.heap.size w4 (w4.alloc (.cells #[.string g, .string v, .string p, .string s, .string k, .bool f] 29)) := (Below.refl _ _).alloc (Nat.le_refl _) _
  exact ⟨_, rfl, bel.trans (belA.mono bel.size), Box.new w4 ⟨g, v, p, s, k, f⟩ 29, hz.below belA⟩

set_option maxRecDepth 100000 in
set_option maxHeartbeats 2000000 in
theorem spec_walk (a : Option Addr) (len cap : Nat) (rs : List R) (g nm : ByteArray) (w : World) (hz : IsZ w a len rs) :
    Calls Try.prog 3 #[.slice a len cap, .string g, .string nm] w (LawPost w) := by
  obtain ⟨ag, av, ap, asi, ak, an, oka, HA⟩ := named_ex g nm rs
  go_enter Try.func3, Try.ntmps3
  go_wp2_with fail
  refine (bytes_spec a len cap rs g nm _ hz).mono ?_
  rintro e w1 ⟨bt, rfl, hbt, hw⟩
  subst w1
  cases bt
  · go_wp2
    go_ret
    exact ⟨rfl, Below.refl _ _⟩
  have hsum := hbt rfl
  clear hbt
  by_cases hg : (1048576 : Int) < g.size
  · go_wp2
    go_ret
    exact ⟨rfl, Below.refl _ _⟩
  by_cases hn : (1048576 : Int) < nm.size
  · go_wp2
    go_ret
    exact ⟨rfl, Below.refl _ _⟩
  go_wp2_with fail
  refine (add_any _ a len cap rs w (by omega) (by omega) (by omega) hz).mono ?_
  rintro e w1 ⟨t1, b1, rfl, ht1, hb1, bel1⟩
  cases b1
  · go_wp2
    go_ret
    exact ⟨rfl, bel1⟩
  clear hb1 ht1
  have hz1 := hz.below bel1
  go_wp2_with fail
  refine (toRes_any a len cap rs w1 (by omega) hz1).mono ?_
  rintro e w3 ⟨a3, c3, rfl, hz3, bel3⟩
  have hz3a := hz1.below bel3
  have bel03 := bel1.trans (bel3.mono bel1.size)
  clear hz1 bel3 bel1 hz
  go_wp2_with fail
  refine (named_at g nm a3 len c3 rs w3 (by omega) hz3 ag av ap asi ak an oka HA).mono ?_
  rintro e w4 ⟨rfl, bel4⟩
  obtain ⟨w5, hw5, bel5, bx, hz5⟩ := spec_facts (bel03.trans (bel4.mono bel03.size)) (hz3a.below bel4) ag av ap asi ak an
  clear hz3 hz3a bel4 bel03
  go_wp2_with fail
  clear hw5
  generalize w4.heap.size = B at *
  go_loopw [12, 13] (fun x i wr => ∃ k : Nat, k ≤ len ∧ i = .int .i64 k ∧ x = .int .i64 (-1) ∧ Below w5.heap.size w5 wr ∧ Hid (hit g nm (rs.drop k) = hit g nm rs)) (fun _ i _ => len - (intOf i).toNat)
  case atStart => exact ⟨0, Nat.zero_le _, rfl, rfl, Below.refl _ _, rfl⟩
  case round =>
    obtain ⟨k, hk, rfl, rfl, hbr, HH⟩ := hrel
    have hszr := hbr.size
    by_cases hlt : k < len
    · obtain ⟨b, off, r, rfl, hr, c0, c1, c2, c3, c4, c5⟩ := hz5.at hbr hlt
      obtain ⟨rg, rv, rp, rsi, rk, rn⟩ := r
      go_wp2_with fail
      refine (nameIs_at rg rv rp rsi rk rn nm _).mono ?_
      rintro e wc ⟨rfl, hbc⟩
      have lb : b < wr.heap.size := World.block_lt_of_cell? wr _ c0
      have d0 := (hbc.cell (p := ⟨b, off + k * 6, none⟩) lb).trans c0
      have hb5c := hbr.trans (hbc.mono hbr.size)
      have hszc := hbc.size
      cases hni : nameIs ⟨rg, rv, rp, rsi, rk, rn⟩ nm
      · have HH' := hit_skip hr HH (.inl hni)
        clear c0 c1 c2 c3 c4 c5 hni hr
        go_wp2
        go_roundw
        case rel => exact ⟨k + 1, by omega, by go_num, rfl, hb5c, HH'⟩
        case measure => simp [intOf]; omega
      cases hgr : (rg.toList == g.toList)
      · have HH' := hit_skip hr HH (.inr hgr)
        clear c0 c1 c2 c3 c4 c5 hni hr
        go_wp2
        go_roundw
        case rel => exact ⟨k + 1, by omega, by go_num, rfl, hb5c, HH'⟩
        case measure => simp [intOf]; omega
      -- found
      have hq := hit_here hr HH hni hgr HA
      simp only [Prod.mk.injEq, R.mk.injEq] at hq
      obtain ⟨⟨rfl, rfl, rfl, rfl, rfl, rfl⟩, rfl⟩ := hq
      have cc := Cells.below (r := ⟨ag, av, ap, asi, ak, an⟩) (o := off + k * 6) ⟨c0, c1, c2, c3, c4, c5⟩ hbc lb
      have bxc := bx.below hb5c
      have belc := bel5.trans (hb5c.mono bel5.size)
      clear c0 c1 c2 c3 c4 c5 hni hr d0 HH
      obtain ⟨c0, c1, c2, c3, c4, c5⟩ := cc
      obtain ⟨lB, ⟨x0, x1, x2, x3, x4, x5⟩, _⟩ := bxc
      simp only [Nat.zero_add] at x1 x2 x3 x4 x5
      go_wp2
      have hkI : (k : Int) < (len : Int) := by omega
      go_region_with (go_at_call 10; refine (conv_at ag av ap asi ak an _).mono ?_; rintro e wf ⟨rfl, hbf⟩; have y0 := (hbf.cell (p := ⟨B, 0, none⟩) (by simpa using lB)).trans x0; have y1 := (hbf.cell (p := ⟨B, 1, none⟩) (by simpa using lB)).trans x1; have y2 := (hbf.cell (p := ⟨B, 2, none⟩) (by simpa using lB)).trans x2; have y3 := (hbf.cell (p := ⟨B, 3, none⟩) (by simpa using lB)).trans x3; have y4 := (hbf.cell (p := ⟨B, 4, none⟩) (by simpa using lB)).trans x4; have y5 := (hbf.cell (p := ⟨B, 5, none⟩) (by simpa using lB)).trans x5)
      all_goals
        go_wp2
        go_ret
        exact ⟨rfl, belc.drew.trans (hbf.mono belc.size)⟩
    obtain rfl : k = len := by omega
    have hnone : hit g nm rs = none := by
      have := HH.out
      rw [List.drop_of_length_le (by rw [hz5.1]; omega)] at this
      exact this.symm
    by_cases hge : g.toList = []
    · have hgb : g.toList.isEmpty = true := by simp [hge]
      have HN : Hid (hit g nm rs = none ∧ g.toList.isEmpty = true) := ⟨hnone, hgb⟩
      clear hnone hgb HH
      go_wp2_with fail
      obtain ⟨w6, rfl⟩ : ∃ w6 : World, w6 = wr := ⟨_, rfl⟩
      go_loopw [12, 14] (fun x i wr => ∃ j : Nat, j ≤ k ∧ i = .int .i64 j ∧ x = .int .i64 (-1) ∧ Below w5.heap.size w5 wr ∧ Hid (anyOf nm (rs.drop j) = anyOf nm rs)) (fun _ i _ => k - (intOf i).toNat)
      case atStart => exact ⟨0, Nat.zero_le _, rfl, rfl, hbr, rfl⟩
      case round =>
        clear hbr hszr
        obtain ⟨j, hj, rfl, rfl, hbr, HH⟩ := hrel
        have hszr := hbr.size
        by_cases hlt' : j < k
        · obtain ⟨b, off, r, rfl, hr, c0, c1, c2, c3, c4, c5⟩ := hz5.at hbr hlt'
          obtain ⟨rg, rv, rp, rsi, rk, rn⟩ := r
          go_wp2_with fail
          refine (nameIs_at rg rv rp rsi rk rn nm _).mono ?_
          rintro e wc ⟨rfl, hbc⟩
          have lb : b < wr.heap.size := World.block_lt_of_cell? wr _ c0
          have hb5c := hbr.trans (hbc.mono hbr.size)
          have hszc := hbc.size
          cases hni : nameIs ⟨rg, rv, rp, rsi, rk, rn⟩ nm
          · have HH' := any_skip hr HH hni
            clear c0 c1 c2 c3 c4 c5 hni hr
            go_wp2
            go_roundw
            case rel => exact ⟨j + 1, by omega, by go_num, rfl, hb5c, HH'⟩
            case measure => simp [intOf]; omega
          have hq := none_any HN.out.1 HN.out.2 (any_here hr HH hni) HA
          simp only [Prod.mk.injEq, R.mk.injEq] at hq
          obtain ⟨⟨rfl, rfl, rfl, rfl, rfl, rfl⟩, rfl⟩ := hq
          have cc := Cells.below (r := ⟨ag, av, ap, asi, ak, an⟩) (o := off + j * 6) ⟨c0, c1, c2, c3, c4, c5⟩ hbc lb
          have bxc := bx.below hb5c
          have belc := bel5.trans (hb5c.mono bel5.size)
          clear c0 c1 c2 c3 c4 c5 hni hr HH HN
          obtain ⟨c0, c1, c2, c3, c4, c5⟩ := cc
          obtain ⟨lB, ⟨x0, x1, x2, x3, x4, x5⟩, _⟩ := bxc
          simp only [Nat.zero_add] at x1 x2 x3 x4 x5
          go_wp2
          have hkI : (j : Int) < (k : Int) := by omega
          go_region_with (go_at_call 10; refine (conv_at ag av ap asi ak an _).mono ?_; rintro e wf ⟨rfl, hbf⟩; have y0 := (hbf.cell (p := ⟨B, 0, none⟩) (by simpa using lB)).trans x0; have y1 := (hbf.cell (p := ⟨B, 1, none⟩) (by simpa using lB)).trans x1; have y2 := (hbf.cell (p := ⟨B, 2, none⟩) (by simpa using lB)).trans x2; have y3 := (hbf.cell (p := ⟨B, 3, none⟩) (by simpa using lB)).trans x3; have y4 := (hbf.cell (p := ⟨B, 4, none⟩) (by simpa using lB)).trans x4; have y5 := (hbf.cell (p := ⟨B, 5, none⟩) (by simpa using lB)).trans x5)
          all_goals
            go_wp2
            go_ret
            exact ⟨rfl, belc.drew.trans (hbf.mono belc.size)⟩
        obtain rfl : j = k := by omega
        have hnone : anyOf nm rs = none := by
          have := HH.out
          rw [List.drop_of_length_le (by rw [hz5.1]; omega)] at this
          exact this.symm
        have hq := none_none HN.out.1 hnone HA
        simp only [Prod.mk.injEq, R.mk.injEq, zeroR] at hq
        obtain ⟨⟨rfl, rfl, rfl, rfl, rfl, rfl⟩, rfl⟩ := hq
        clear hnone HH HN
        have bxc := bx.below hbr
        obtain ⟨lB, ⟨x0, x1, x2, x3, x4, x5⟩, _⟩ := bxc
        simp only [Nat.zero_add] at x1 x2 x3 x4 x5
        go_wp2
        go_ret
        exact ⟨rfl, bel5.trans (hbr.mono bel5.size)⟩
    · have hgb : g.toList.isEmpty = false := by simp [hge]
      have hq := none_other hnone hgb HA
      simp only [Prod.mk.injEq, R.mk.injEq, zeroR] at hq
      obtain ⟨⟨rfl, rfl, rfl, rfl, rfl, rfl⟩, rfl⟩ := hq
      clear hnone HH
      have bxc := bx.below hbr
      obtain ⟨lB, ⟨x0, x1, x2, x3, x4, x5⟩, _⟩ := bxc
      simp only [Nat.zero_add] at x1 x2 x3 x4 x5
      go_wp2
      go_ret
      exact ⟨rfl, bel5.trans (hbr.mono bel5.size)⟩
end Go.Proofs.Qxb6618336a
