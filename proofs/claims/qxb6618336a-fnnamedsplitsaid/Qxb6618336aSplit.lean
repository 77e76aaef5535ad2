/-
  THE WALK OF 'FnNamedSplit'.
-/
import Derived.Test.Qxb6618336aShare
namespace Go.Proofs.Qxb6618336a
open Go.RowKit
set_option linter.unusedVariables false

theorem owns_below {w w' : World} {base : Nat} {e : TypeId} {size n : Nat} {g cap : Nat} {xs : List Value} (h : w.ownsRow base e size (.slice (some ⟨g, 0, none⟩) n cap) n xs) (hb : Below w.heap.size w w') : w'.ownsRow base e size (.slice (some ⟨g, 0, none⟩) n cap) n xs :=
  h.kept (row := none) ⟨hb.os, hb.tape, hb.output, hb.size, fun k hk _ => hb.block k hk⟩ (.inr (by simp [Value.ownBlock]))

theorem flat_snoc {rs : List R} {k : Nat} {r : R} (L : List R) (hr : rs[k]? = some r) : (L ++ rs.take (k + 1)).flatMap R.cs = (L ++ rs.take k).flatMap R.cs ++ r.cs := by
  obtain ⟨h, rfl⟩ := List.getElem?_eq_some_iff.1 hr
  rw [List.take_succ_eq_append_getElem h, ← List.append_assoc, List.flatMap_append]
  simp

theorem flat_at (L : List R) : ∀ (i : Nat) (h : i < L.length) (j : Nat), j < 6 → (L.flatMap R.cs)[i * 6 + j]? = (L[i]).cs[j]? := by
  induction L with
  | nil => intro i h; simp at h
  | cons r L ih =>
    intro i h j hj
    have h6 : r.cs.length = 6 := rfl
    cases i with
    | zero => simp only [List.flatMap_cons, Nat.zero_mul, Nat.zero_add, List.getElem_cons_zero]; rw [List.getElem?_append_left (by omega)]
    | succ i =>
      simp only [List.flatMap_cons, List.getElem_cons_succ]
      rw [List.getElem?_append_right (by omega), h6, show (i + 1) * 6 + j - 6 = i * 6 + j from by omega]
      exact ih i (by simpa using h) j hj

theorem owns_isZ {w : World} {base g n cap : Nat} {L : List R} (h : w.ownsRow base 29 6 (.slice (some ⟨g, 0, none⟩) n cap) n (L.flatMap R.cs)) (hn : L.length = n) : IsZ w (some ⟨g, 0, none⟩) n L := by
  refine ⟨hn, fun _ => ⟨g, 0, rfl, (h.lt g rfl).2, fun i hi => ?_⟩⟩
  have hc : ∀ j, j < 6 → w.cell? ⟨g, 0 + i * 6 + j, none⟩ = (L[i]).cs[j]? := fun j hj => by
    rw [Nat.zero_add, h.cellAt _ (by omega)]
    exact flat_at L i hi j hj
  exact ⟨hc 0 (by omega), hc 1 (by omega), hc 2 (by omega), hc 3 (by omega), hc 4 (by omega), hc 5 (by omega)⟩

theorem cs_cells (w : World) (r : R) : ∀ j u, r.cs[j]? = some u → (w.alloc (.cells #[.string r.g, .string r.v, .string r.p, .string r.s, .string r.k, .bool r.n] 29)).cell? ((⟨w.heap.size, 0, none⟩ : Addr).add j) = some u := by
  intro j u h
  have hj : j < 6 := (List.getElem?_eq_some_iff.1 h).1
  match j, hj with
  | 0, _ => simp [R.cs] at h; subst h; simp [Addr.add]
  | 1, _ => simp [R.cs] at h; subst h; simp [Addr.add]
  | 2, _ => simp [R.cs] at h; subst h; simp [Addr.add]
  | 3, _ => simp [R.cs] at h; subst h; simp [Addr.add]
  | 4, _ => simp [R.cs] at h; subst h; simp [Addr.add]
  | 5, _ => simp [R.cs] at h; subst h; simp [Addr.add]

theorem cs_one (r : R) : ∀ u ∈ r.cs, u.oneCell' = true := by
  intro u hu
  simp [R.cs] at hu
  rcases hu with rfl | rfl | rfl | rfl | rfl | rfl <;> rfl

theorem tail_facts {w0 wr w10 : World} {B1 B2 j n : Nat} {ra rb : R} {a' ac : Option Addr} {rs' rsc : List R} (bel : Below w0.heap.size w0 wr) (bel10 : Below wr.heap.size wr w10) (bxa : Box wr B1 ra) (bxb : Box wr B2 rb) (hzb : IsZ wr a' j rs') (hzc : IsZ wr ac n rsc) (g v p s k : ByteArray) (f : Bool) :
    ∃ w11, w10.alloc (.cells #[.string g, .string v, .string p, .string s, .string k, .bool f] 29) = w11 ∧ Below w0.heap.size w0 w11 ∧ Box w11 B1 ra ∧ Box w11 B2 rb ∧ Box w11 w10.heap.size ⟨g, v, p, s, k, f⟩ ∧ IsZ w11 a' j rs' ∧ IsZ w11 ac n rsc := by
  have belA : Below w10.heap.size w10 (w10.alloc (.cells #[.string g, .string v, .string p, .string s, .string k, .bool f] 29)) := (Below.refl _ _).alloc (Nat.le_refl _) _
  have b1 := bel.trans (bel10.mono bel.size)
  exact ⟨_, rfl, b1.trans (belA.mono b1.size), (bxa.below bel10).below belA, (bxb.below bel10).below belA, Box.new w10 ⟨g, v, p, s, k, f⟩ 29, (hzb.below bel10).below belA, (hzc.below bel10).below belA⟩

theorem IsZ.alloc2 {w : World} {a : Option Addr} {n : Nat} {rs : List R} (h : IsZ w a n rs) (o1 o2 : Obj) : IsZ ((w.alloc o1).alloc o2) a n rs :=
  (h.below ((Below.refl _ _).alloc (Nat.le_refl _) o1)).below ((Below.refl _ _).alloc (Nat.le_refl _) o2)

/-- The block of x, and what lies below, behind one call more. -/
theorem last_facts {w0 w11 w13 : World} {o1 : Obj} {g v p s k : ByteArray} {f : Bool} {t : TypeId} (h : Below w0.heap.size w0 w11)
    (hb : Below ((w11.alloc o1).alloc (.cells #[.string g, .string v, .string p, .string s, .string k, .bool f] t)).heap.size ((w11.alloc o1).alloc (.cells #[.string g, .string v, .string p, .string s, .string k, .bool f] t)) w13) :
    Below w0.heap.size w0 w13 ∧ Box w13 (w11.heap.size + 1) ⟨g, v, p, s, k, f⟩ := by
  have b := two_more (two_more h o1) (.cells #[.string g, .string v, .string p, .string s, .string k, .bool f] t)
  have bx := Box.new (w11.alloc o1) ⟨g, v, p, s, k, f⟩ t
  rw [World.size_alloc] at bx
  exact ⟨b.trans (hb.mono b.size), bx.below hb⟩

set_option maxRecDepth 100000 in
set_option maxHeartbeats 8000000 in
theorem split_walk (a : Option Addr) (len cap : Nat) (rs : List R) (a' : Option Addr) (len' cap' : Nat) (rs' : List R) (g nm : ByteArray) (w : World) (hz : IsZ w a len rs) (hz' : IsZ w a' len' rs') :
    Calls Try.prog 4 #[.slice a len cap, .slice a' len' cap', .string g, .string nm] w (LawPost w) := by
  obtain ⟨ag, av, ap, asi, ak, an, oka, HA⟩ := named_ex g nm rs
  obtain ⟨bg, bv, bp, bsi, bk, bn, okb, HB⟩ := named_ex g nm rs'
  obtain ⟨cg, cv, cp, csi, ck, cn, okc, HC⟩ := named_ex g nm (rs ++ rs')
  go_enter Try.func4, Try.ntmps4
  go_wp2_with fail
  refine (bytes_split a len cap rs a' len' cap' rs' g nm _ hz hz').mono ?_
  rintro e w1 ⟨bt, rfl, hbt, hw⟩
  subst w1
  cases bt
  · go_wp2
    go_ret
    exact ⟨rfl, Below.refl _ _⟩
  have hsum := hbt rfl
  clear hbt
  by_cases hg : (1048576 : Int) < g.size
  · go_wp2
    go_ret
    exact ⟨rfl, Below.refl _ _⟩
  by_cases hn : (1048576 : Int) < nm.size
  · go_wp2
    go_ret
    exact ⟨rfl, Below.refl _ _⟩
  go_wp2_with fail
  refine (add_any _ a len cap rs w (by omega) (by omega) (by omega) hz).mono ?_
  rintro e w1 ⟨t1, b1, rfl, ht1, hb1, bel1⟩
  cases b1
  · go_wp2
    go_ret
    exact ⟨rfl, bel1⟩
  have ht1' := hb1 rfl
  clear hb1
  have hz1 := hz.below bel1
  have hz1' := hz'.below bel1
  go_wp2_with fail
  refine (add_any _ a' len' cap' rs' w1 (by omega) (by omega) (by omega) hz1').mono ?_
  rintro e w2 ⟨t2, b2, rfl, ht2, hb2, bel2⟩
  have bel02 := bel1.trans (bel2.mono bel1.size)
  cases b2
  · go_wp2
    go_ret
    exact ⟨rfl, bel02⟩
  have ht2' := hb2 rfl
  have hz2 := hz1.below bel2
  have hz2' := hz1'.below bel2
  clear hb2 hz1 hz1' bel1 bel2 hz hz' ht1 ht2 ht1' ht2'
  go_wp2_with fail
  refine (toRes_any a len cap rs w2 (by omega) hz2).mono ?_
  rintro e w3 ⟨a3, c3, rfl, hz3, bel3⟩
  have hz3a := hz2.below bel3
  have hz3b := hz2'.below bel3
  have bel03 := bel02.trans (bel3.mono bel02.size)
  clear hz2 hz2' bel3 bel02
  go_wp2_with fail
  refine (named_at g nm a3 len c3 rs w3 (by omega) hz3 ag av ap asi ak an oka HA).mono ?_
  rintro e w4 ⟨rfl, bel4⟩
  have hz4a := hz3a.below bel4
  have hz4b := hz3b.below bel4
  have bel04 := bel03.trans (bel4.mono bel03.size)
  clear hz3 hz3a hz3b bel4 bel03
  have bxa := Box.new w4 ⟨ag, av, ap, asi, ak, an⟩ 29
  have belA : Below w4.heap.size w4 (w4.alloc (.cells #[.string ag, .string av, .string ap, .string asi, .string ak, .bool an] 29)) := (Below.refl _ _).alloc (Nat.le_refl _) _
  have hz5a := hz4a.below belA
  have hz5b := hz4b.below belA
  have bel05 := bel04.trans (belA.mono bel04.size)
  have sz5 : w4.heap.size < (w4.alloc (.cells #[.string ag, .string av, .string ap, .string asi, .string ak, .bool an] 29)).heap.size := by simp
  generalize hw5 : w4.alloc (.cells #[.string ag, .string av, .string ap, .string asi, .string ak, .bool an] 29) = w5 at *
  go_wp2_with fail
  clear hw5 belA hz4a hz4b bel04
  generalize w4.heap.size = B1 at *
  refine (toRes_any a' len' cap' rs' w5 (by omega) hz5b).mono ?_
  rintro e w6 ⟨a6, c6, rfl, hz6, bel6⟩
  have hz6a := hz5a.below bel6
  have hz6b := hz5b.below bel6
  have bel06 := bel05.trans (bel6.mono bel05.size)
  have bxa6 := bxa.below bel6
  clear hz5a hz5b bel6 bel05 bxa sz5
  go_wp2_with fail
  refine (named_at g nm a6 len' c6 rs' w6 (by omega) hz6 bg bv bp bsi bk bn okb HB).mono ?_
  rintro e w7 ⟨rfl, bel7⟩
  have hz7a := hz6a.below bel7
  have hz7b := hz6b.below bel7
  have bel07 := bel06.trans (bel7.mono bel06.size)
  have bxa7 := bxa6.below bel7
  clear hz6 hz6a hz6b bel7 bel06 bxa6
  have bxb := Box.new w7 ⟨bg, bv, bp, bsi, bk, bn⟩ 29
  have belA : Below w7.heap.size w7 (w7.alloc (.cells #[.string bg, .string bv, .string bp, .string bsi, .string bk, .bool bn] 29)) := (Below.refl _ _).alloc (Nat.le_refl _) _
  have hz8a := hz7a.below belA
  have hz8b := hz7b.below belA
  have bel08 := bel07.trans (belA.mono bel07.size)
  have bxa8 := bxa7.below belA
  generalize hw8 : w7.alloc (.cells #[.string bg, .string bv, .string bp, .string bsi, .string bk, .bool bn] 29) = w8 at *
  obtain ⟨i0, hi, hi0, hi1, hi2⟩ := info_parts Try.info29
  go_wp2_with (first | (at_make; refine wpList_make_own _ rfl _ _ 26 rfl w8.heap.size 29 i0 _ 6 Try.underlying26 hi hi0 hi1 _ _ _ (len + len') rfl rfl (by omega) (by rw [hi2]; omega) (by unfold maxLen; omega) (Nat.le_refl _) ?_; intro w9 hown hgr))
  clear hw8 belA hz7a hz7b bel07 bxa7
  generalize w7.heap.size = B2 at *
  have bel9 : Below w8.heap.size w8 w9 := (Below.refl _ _).grown hgr (Nat.le_refl _) (by simp)
  go_loopw [15, 16] (fun v i wr => ∃ k : Nat, k ≤ len ∧ i = .int .i64 k ∧ v = .slice (some ⟨w8.heap.size, 0, none⟩) k (len + len') ∧ wr.ownsRow w8.heap.size 29 6 (.slice (some ⟨w8.heap.size, 0, none⟩) k (len + len')) k (([] ++ rs.take k).flatMap R.cs) ∧ Below w8.heap.size w8 wr) (fun _ i _ => len - (intOf i).toNat)
  case atStart => exact ⟨0, Nat.zero_le _, rfl, rfl, hown, bel9⟩
  case round =>
    obtain ⟨k, hk, rfl, rfl, hown1, hbr⟩ := hrel
    clear hown bel9 hgr
    have hszr := hbr.size
    by_cases hlt : k < len
    · obtain ⟨b, off, r, rfl, hr, c0, c1, c2, c3, c4, c5⟩ := hz8a.at hbr hlt
      obtain ⟨rg, rv, rp, rsi, rk, rn⟩ := r
      go_wp2_with fail
      refine (conv_at rg rv rp rsi rk rn wr).mono ?_
      rintro e wc ⟨rfl, hbc⟩
      have hownc := owns_below hown1 hbc
      have hb8c := hbr.trans (hbc.mono hbr.size)
      have hszc := hbc.size
      clear c0 c1 c2 c3 c4 c5
      go_wp2_with (at_builtin; refine wpList_append_fits _ rfl _ _ 26 rfl w8.heap.size 29 i0 6 Try.underlying26 hi hi1 w8.heap.size k (len + len') _ rfl (hownc.alloc _) ⟨wc.heap.size, 0, none⟩ 1 1 (R.cs ⟨rg, rv, rp, rsi, rk, rn⟩) rfl rfl (cs_cells wc ⟨rg, rv, rp, rsi, rk, rn⟩) (cs_one _) (by omega) ?_; intro wd hownd hgrd)
      have hbd : Below w8.heap.size w8 wd := (hb8c.alloc (by omega) _).grown hgrd (by simp; omega) (by rintro _ ⟨rfl⟩; exact Nat.le_refl _)
      rw [← flat_snoc [] hr] at hownd
      go_roundw
      case rel => exact ⟨k + 1, by omega, by go_num, rfl, hownd, hbd⟩
      case measure => simp [intOf]; omega
    obtain rfl : k = len := by omega
    have hown2 : wr.ownsRow w8.heap.size 29 6 (.slice (some ⟨w8.heap.size, 0, none⟩) (k + 0) (k + len')) (k + 0) ((rs ++ rs'.take 0).flatMap R.cs) := by
      have e : [] ++ rs.take k = rs ++ rs'.take 0 := by rw [← hz8a.1]; simp
      rw [← e]; exact hown1
    go_wp2
    go_loopw [15, 17] (fun v i wr => ∃ j : Nat, j ≤ len' ∧ i = .int .i64 j ∧ v = .slice (some ⟨w8.heap.size, 0, none⟩) (k + j) (k + len') ∧ wr.ownsRow w8.heap.size 29 6 (.slice (some ⟨w8.heap.size, 0, none⟩) (k + j) (k + len')) (k + j) ((rs ++ rs'.take j).flatMap R.cs) ∧ Below w8.heap.size w8 wr) (fun _ i _ => len' - (intOf i).toNat)
    case atStart => exact ⟨0, Nat.zero_le _, rfl, rfl, hown2, hbr⟩
    case round =>
      clear hown1 hown2 hbr hszr
      obtain ⟨j, hj, rfl, rfl, hown3, hbr⟩ := hrel
      have hszr := hbr.size
      by_cases hlt' : j < len'
      · obtain ⟨b, off, r, rfl, hr, c0, c1, c2, c3, c4, c5⟩ := hz8b.at hbr hlt'
        obtain ⟨rg, rv, rp, rsi, rk, rn⟩ := r
        go_wp2_with fail
        refine (conv_at rg rv rp rsi rk rn _).mono ?_
        rintro e wc ⟨rfl, hbc⟩
        have hownc := owns_below hown3 hbc
        have hb8c := hbr.trans (hbc.mono hbr.size)
        have hszc := hbc.size
        clear c0 c1 c2 c3 c4 c5
        go_wp2_with (at_builtin; refine wpList_append_fits _ rfl _ _ 26 rfl w8.heap.size 29 i0 6 Try.underlying26 hi hi1 w8.heap.size (k + j) (k + len') _ rfl (hownc.alloc _) ⟨wc.heap.size, 0, none⟩ 1 1 (R.cs ⟨rg, rv, rp, rsi, rk, rn⟩) rfl rfl (cs_cells wc ⟨rg, rv, rp, rsi, rk, rn⟩) (cs_one _) (by omega) ?_; intro wd hownd hgrd)
        have hbd : Below w8.heap.size w8 wd := (hb8c.alloc (by omega) _).grown hgrd (by simp; omega) (by rintro _ ⟨rfl⟩; exact Nat.le_refl _)
        rw [← flat_snoc rs hr] at hownd
        go_roundw
        case rel => exact ⟨j + 1, by omega, by go_num, rfl, hownd, hbd⟩
        case measure => simp [intOf]; omega
      obtain rfl : j = len' := by omega
      have hzc : IsZ wr (some ⟨w8.heap.size, 0, none⟩) (k + j) (rs ++ rs') := by
        have e : rs'.take j = rs' := by rw [← hz8b.1]; simp
        rw [e] at hown3
        exact owns_isZ hown3 (by rw [List.length_append, hz8a.1, hz8b.1])
      have hza := hz8a.below hbr
      have hzb := hz8b.below hbr
      have bxa := bxa8.below hbr
      have bxb := bxb.below hbr
      have bel := bel08.trans (hbr.mono bel08.size)
      clear hown3 hbr hszr bxa8 bel08 hz8a hz8b
      generalize w8.heap.size = G at *
      go_wp2_with fail
      refine (named_at g nm _ (k + j) (k + j) (rs ++ rs') _ (by omega) hzc cg cv cp csi ck cn okc HC).mono ?_
      rintro e w10 ⟨rfl, bel10⟩
      rcases split_law g nm rs rs' HA.out HB.out HC.out with ⟨rfl, h1, hR, rfl⟩ | ⟨rfl, h1, rfl, h2, hR, rfl⟩ | ⟨rfl, rfl, h2, hR, rfl⟩ | ⟨rfl, h1, rfl, h2, hR, rfl⟩ | ⟨rfl, h1, rfl, hR, rfl⟩ | ⟨rfl, rfl, h2, hR, rfl⟩ | ⟨rfl, rfl, hR, rfl⟩
      all_goals
        simp only [R.mk.injEq] at hR
        obtain ⟨rfl, rfl, rfl, rfl, rfl, rfl⟩ := hR
        obtain ⟨w11, hw11, bel11, bxa, bxb, bxc, hzb, hzc⟩ := tail_facts bel bel10 bxa bxb hzb hzc cg cv cp csi ck cn
        obtain ⟨la, ⟨a0, a1, a2, a3, a4, a5⟩, _⟩ := bxa
        obtain ⟨lb, ⟨b0, b1, b2, b3, b4, b5⟩, _⟩ := bxb
        obtain ⟨lc, ⟨c0, c1, c2, c3, c4, c5⟩, _⟩ := bxc
        simp only [Nat.zero_add] at a1 a2 a3 a4 a5 b1 b2 b3 b4 b5 c1 c2 c3 c4 c5
        clear bel10 bel HA HB HC hza
        by_cases hj0 : j = 0
        · subst hj0
          clear hzb hzc
          go_wp2
          go_ret
          exact ⟨rfl, two_more bel11 _⟩
        · obtain ⟨xb, xo, x, rfl, hx0, x0, x1, x2, x3, x4, x5⟩ := hzb.here (k := 0) (by omega)
          simp only [Nat.zero_mul, Nat.add_zero] at x0 x1 x2 x3 x4 x5
          have hxm : x ∈ rs ++ rs' := List.mem_append_right _ (List.mem_of_getElem? hx0)
          obtain ⟨xg, xv, xp, xsi, xk, xn⟩ := x
          obtain ⟨yg, yv, yp, ysi, yk, yn, oky, HY⟩ := named_ex xg xp (rs ++ rs')
          have hjI : (0 : Int) < (j : Int) := by omega
          have hxb : xb < w11.heap.size := World.block_lt_of_cell? w11 _ x0
          obtain ⟨ho, hg', hp'⟩ := own_law (rs ++ rs') ⟨xg, xv, xp, xsi, xk, xn⟩ hxm HY.out
          subst ho
          have HO := hid hg'
          have HP := hid hp'
          clear hx0 hxm hg' hp' hzb
          go_wp2_with fail
          refine (named_at xg xp _ (k + j) (k + j) (rs ++ rs') _ (by omega) (hzc.alloc2 _ _) yg yv yp ysi yk yn true HY).mono ?_
          rintro e w13 ⟨rfl, bel13⟩
          obtain ⟨bel14, lx, ⟨y0, y1, y2, y3, y4, y5⟩, _⟩ := last_facts bel11 bel13
          simp only [Nat.zero_add] at y1 y2 y3 y4 y5
          have hO := HO.out
          have hP := HP.out
          clear a0 a1 a2 a3 a4 a5 b0 b1 b2 b3 b4 b5 c0 c1 c2 c3 c4 c5 x0 x1 x2 x3 x4 x5 bel13 bel11 hzc
          rcases hP with hP | ⟨hP, hP'⟩
          all_goals
            go_wp2
            go_ret
            exact ⟨rfl, two_more bel14 _⟩
end Go.Proofs.Qxb6618336a
