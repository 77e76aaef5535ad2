/-
  format: the text of a decimal, written from the end of the buffer on.
-/
import Derived.Test.Qxb6618375aBuf
import Derived.Deep.CutBlock
import Derived.Deep.DeepCutAuto
namespace Go.Proofs.Qxb6618375a
open Go.RowKit
set_option linter.unusedVariables false

theorem Buf.below {w w' : World} {B : Nat} {rv : List Int} (h : Buf w B rv) {C : Nat} (hb : Below C w w') (hC : B < C) : Buf w' B rv :=
  ⟨Nat.lt_of_lt_of_le h.1 hb.size, fun j hj => by rw [hb.cell (p := ⟨B, j, none⟩) hC]; exact h.2.1 j hj, fun j => by rw [hb.frozen (p := ⟨B, j, none⟩) hC]; exact h.2.2.1 j, fun i v hv => ⟨(h.2.2.2 i v hv).1, by rw [hb.cell (p := ⟨B, 21 - i, none⟩) hC]; exact (h.2.2.2 i v hv).2⟩⟩
theorem Buf.alloc {w : World} {B : Nat} {rv : List Int} (h : Buf w B rv) (o : Obj) : Buf (w.alloc o) B rv := h.below ((Below.refl _ _).alloc (Nat.le_refl _) o) h.1

theorem putPair_int (B q : Nat) (n : Int) (w : World) (rv : List Int) (hb : Buf w B rv) (hq : q + 1 < 22) (h0 : 0 ≤ n) (hn : n < 100) :
    Calls Try.prog 16 #[.pointer (some ⟨B, 0, none⟩), .int .i64 q, .int .u64 n] w fun e w' => e = .returned (.tuple #[]) ∧ w' = ((w.setCell ⟨B, q, none⟩ (.int .u8 (48 + n / 10))).setCell ⟨B, q + 1, none⟩ (.int .u8 (48 + n % 10))).drew := by
  obtain ⟨m, rfl⟩ := Int.eq_ofNat_of_zero_le h0
  obtain ⟨v0, d0⟩ := hb.2.1 q (by omega)
  obtain ⟨v1, d1⟩ := hb.2.1 (q + 1) (by omega)
  exact putPair_any B q m w hq (by omega) v0 v1 d0 d1 (hb.2.2.1 q) (hb.2.2.1 (q + 1))

/-- What a step behind which only block B has turned hands on. -/
theorem set_step {w0 w : World} {B q : Nat} {x : Value} (hbel : Below B w0 w) : Below B w0 (w.setCell ⟨B, q, none⟩ x) ∧ ∀ b o, B < b → (w.setCell ⟨B, q, none⟩ x).cell? ⟨b, o, none⟩ = w.cell? ⟨b, o, none⟩ :=
  ⟨hbel.setCell (Nat.le_refl _) _, fun b o hb => World.cell?_setCell_other _ _ _ _ (fun e => by have := congrArg Addr.block e; simp at this; omega)⟩
theorem pair_step {w0 w w' : World} {B q q' : Nat} {x y : Value} (hbel : Below B w0 w) (ha : w' = ((w.setCell ⟨B, q, none⟩ x).setCell ⟨B, q', none⟩ y).drew) :
    Below B w0 w' ∧ ∀ b o, B < b → w'.cell? ⟨b, o, none⟩ = w.cell? ⟨b, o, none⟩ := by
  subst ha
  have h1 := set_step (q := q) (x := x) hbel
  have h2 := set_step (q := q') (x := y) h1.1
  exact ⟨h2.1.drew, fun b o hb => (h2.2 b o hb).trans (h1.2 b o hb)⟩

theorem dig_at {N coef j : Nat} (h : N = coef / 10 ^ j) : (48 + (N : Int) % 10) = dig coef j := by
  unfold dig; subst h; omega
theorem dig_pair {N coef j : Nat} (h : N = coef / 10 ^ j) : 48 + (N : Int) % 100 % 10 = dig coef j ∧ 48 + (N : Int) % 100 / 10 = dig coef (j + 1) := by
  unfold dig
  have e : coef / 10 ^ (j + 1) = N / 10 := by rw [h, Nat.div_div_eq_div_mul, ← Nat.pow_succ]
  rw [e, ← h]
  omega
theorem div_next {N coef j : Nat} (h : N = coef / 10 ^ j) : N / 10 = coef / 10 ^ (j + 1) := by rw [h, Nat.div_div_eq_div_mul, ← Nat.pow_succ]
theorem div_next2 {N coef j : Nat} (h : N = coef / 10 ^ j) : N / 100 = coef / 10 ^ (j + 2) := by
  rw [h, Nat.div_div_eq_div_mul, Nat.pow_succ, Nat.pow_succ, Nat.mul_assoc]

/-- One byte more where there is a point. -/
def dt (s : Nat) : Nat := if s = 0 then 0 else 1
theorem dt_le (s : Nat) : dt s ≤ 1 := by unfold dt; split <;> omega
theorem body_len' (c s i : Nat) : (body c s i).length = s + dt s + i := body_len c s i

theorem le_of_div {coef m k : Nat} (hc : coef ≤ 9999999999999999999) (h : 10 ^ k ≤ coef / 10 ^ m) : m + k ≤ 18 := by
  have h1 := (Nat.le_div_iff_mul_le (pow_pos' m)).1 h
  rw [← Nat.pow_add] at h1
  by_cases hm : m + k ≤ 18
  · exact hm
  · exfalso
    have := pow_le (k := 19) (s := k + m) (by omega)
    omega

/-- How long a text can be. -/
theorem nd_room {coef s nd : Nat} (hc : coef ≤ 9999999999999999999) (hs : s ≤ 19) (h : IsNd (coef / 10 ^ s) nd) : s + dt s + nd ≤ 21 := by
  have := dt_le s
  rcases h.2.2 with h1 | h1
  · omega
  · have := le_of_div hc h1
    have := h.1
    omega

theorem nd_one {coef s t N nd : Nat} (hN : N = coef / 10 ^ (s + t)) (h0 : t = 0 ∨ 1 ≤ N) (h : N < 10) (hnd : IsNd (coef / 10 ^ s) nd) : nd = t + 1 := by
  rw [Nat.pow_add, ← Nat.div_div_eq_div_mul] at hN
  exact hnd.unique (isNd_mk (by omega) (by omega))
theorem nd_two {coef s t N nd : Nat} (hN : N = coef / 10 ^ (s + t)) (h : 10 ≤ N) (h2 : N < 100) (hnd : IsNd (coef / 10 ^ s) nd) : nd = t + 2 := by
  rw [Nat.pow_add, ← Nat.div_div_eq_div_mul] at hN
  have e : coef / 10 ^ s / 10 ^ (t + 1) = N / 10 := by rw [hN, Nat.pow_succ, ← Nat.div_div_eq_div_mul]
  exact hnd.unique (isNd_mk (j := t + 1) (by omega) (by omega))

def FmtPost (B : Nat) (w : World) (L : Nat) (rv : List Int) (e : Ending) (w' : World) : Prop :=
  e = .returned (.slice (some ⟨B, 22 - L, none⟩) L L) ∧ Buf w' B rv ∧ Below B w w'

theorem fmt_pos {B coef s nd q : Nat} {w w' : World} (hb : Buf w' B (body coef s nd)) (hbel : Below B w w') (hl : q + s + dt s + nd = 22) : FmtPost B w (rev coef s nd false).length (rev coef s nd false) (.returned (.slice (some ⟨B, q, none⟩) (22 - q) (22 - q))) w' := by
  have e : rev coef s nd false = body coef s nd := by simp [rev]
  rw [e, body_len']
  refine ⟨?_, hb, hbel⟩
  rw [show 22 - (s + dt s + nd) = q from by omega, show 22 - q = s + dt s + nd from by omega]
theorem fmt_neg {B coef s nd q : Nat} {w w' : World} (hb : Buf w' B (body coef s nd)) (hbel : Below B w w') (hl : q + 1 + s + dt s + nd = 22) : FmtPost B w (rev coef s nd true).length (rev coef s nd true) (.returned (.slice (some ⟨B, q, none⟩) (22 - q) (22 - q))) (w'.setCell ⟨B, q, none⟩ (.int .u8 45)) := by
  have e : rev coef s nd true = body coef s nd ++ [45] := by simp [rev]
  rw [e, List.length_append, body_len']
  refine ⟨?_, hb.push (by rw [body_len']; omega) 45, hbel.setCell (Nat.le_refl _) _⟩
  simp only [List.length_cons, List.length_nil]
  rw [show 22 - (s + dt s + nd + (0 + 1)) = q from by omega, show 22 - q = s + dt s + nd + (0 + 1) from by omega]

set_option maxRecDepth 100000 in
set_option maxHeartbeats 2000000 in
theorem format_any (B coef s nd : Nat) (neg : Bool) (w : World) (hbuf : Buf w B []) (hc : coef ≤ 9999999999999999999) (hs : s ≤ 19) (Hnd : Hid (IsNd (coef / 10 ^ s) nd)) :
    Calls Try.prog 12 #[.agg #[.int .u64 coef, .int .u8 s, .bool neg], .pointer (some ⟨B, 0, none⟩)] w (FmtPost B w (rev coef s nd neg).length (rev coef s nd neg)) := by
  have hB : B < w.heap.size := hbuf.1
  go_enter Try.func12, Try.ntmps12
  go_upto_block 0 with fail
  go_cut [5, 6] (fun i c wx => ∃ N p : Nat, i = .int .i64 p ∧ p + s = 22 ∧ c = .int .u64 N ∧ N ≤ 9999999999999999999 ∧ Hid (N = coef / 10 ^ s) ∧ Hid (Buf wx B (frac coef s)) ∧ Below B w wx ∧ wx.cell? ⟨w.heap.size, 1, none⟩ = some (.int .u8 s) ∧ wx.cell? ⟨w.heap.size, 2, none⟩ = some (.bool neg))
  case first =>
    go_wp2_with fail
    go_loopw [5, 6, 7] (fun i c k wx => ∃ N p j kk : Nat, i = .int .i64 p ∧ p + j = 22 ∧ k = .int .i64 kk ∧ j + kk = s ∧ c = .int .u64 N ∧ N ≤ 9999999999999999999 ∧ Hid (N = coef / 10 ^ j) ∧ Hid (Buf wx B (frac coef j)) ∧ Below B w wx ∧ wx.cell? ⟨w.heap.size, 1, none⟩ = some (.int .u8 s) ∧ wx.cell? ⟨w.heap.size, 2, none⟩ = some (.bool neg)) (fun _ _ k _ => (intOf k).toNat)
    case atStart =>
      have hb : Buf (w.alloc (.cells #[.int .u64 coef, .int .u8 s, .bool neg] 24)) B (frac coef 0) := hbuf.alloc _
      exact ⟨coef, 22, 0, s, rfl, rfl, rfl, by omega, rfl, hc, by simp [Hid], hb, (Below.refl _ _).alloc (by omega) _, by simp, by simp⟩
    case round =>
      obtain ⟨N, p, j, kk, rfl, hpj, rfl, hjk, rfl, hN, HN, HB, hbel, e1, e2⟩ := hrel
      have hbl := hbel.size
      by_cases hk0 : kk = 0
      · subst hk0
        obtain rfl : j = s := by omega
        go_wp2
        go_meet
        exact ⟨N, p, rfl, hpj, rfl, hN, HN, HB, hbel, e1, e2⟩
      by_cases hk1 : kk = 1
      · subst hk1
        obtain ⟨q, rfl⟩ : ∃ q, p = q + 1 := ⟨p - 1, by omega⟩
        obtain ⟨v0, d0⟩ := HB.out.2.1 q (by omega)
        have f0 := HB.out.2.2.1 q
        have HD := dig_at HN.out
        have HV := div_next HN.out
        have HS := set_step (q := q) (x := .int .u8 (48 + (N : Int) % 10)) hbel
        have HP := HB.out.push (n := q) (by rw [frac_len]; omega) (48 + (N : Int) % 10)
        have HX : Hid ((48 + (N : Int) % 10 = dig coef j) ∧ N / 10 = coef / 10 ^ (j + 1) ∧ Buf (wr.setCell ⟨B, q, none⟩ (.int .u8 (48 + (N : Int) % 10))) B (frac coef j ++ [48 + (N : Int) % 10]) ∧ Below B w (wr.setCell ⟨B, q, none⟩ (.int .u8 (48 + (N : Int) % 10)))) := ⟨HD, HV, HP, HS.1⟩
        have HC := HS.2 w.heap.size 1 hB
        have HC2 := HS.2 w.heap.size 2 hB
        have HY : Hid ((wr.setCell ⟨B, q, none⟩ (.int .u8 (48 + (N : Int) % 10))).cell? ⟨w.heap.size, 1, none⟩ = some (.int .u8 s) ∧ (wr.setCell ⟨B, q, none⟩ (.int .u8 (48 + (N : Int) % 10))).cell? ⟨w.heap.size, 2, none⟩ = some (.bool neg)) := ⟨HC.trans e1, HC2.trans e2⟩
        clear HD HV HS HP HC HC2
        go_wp2
        go_meet
        obtain ⟨x1, x2, x3, x4⟩ := HX.out
        refine ⟨N / 10, q, rfl, by omega, by go_num, by omega, by rw [← hjk]; exact x2, ?_, x4, HY.out.1, HY.out.2⟩
        rw [← hjk, frac_succ, ← x1]
        exact x3
      · obtain ⟨kq, rfl⟩ : ∃ q, kk = q + 2 := ⟨kk - 2, by omega⟩
        obtain ⟨q, rfl⟩ : ∃ q, p = q + 2 := ⟨p - 2, by omega⟩
        go_wp2_with fail
        refine (putPair_int B q _ wr _ HB.out (by omega) (by omega) (by omega)).mono ?_
        rintro e w1 ⟨rfl, hw1⟩
        have HS := pair_step hbel hw1
        have HP := HB.out.push2 (by rw [frac_len]; omega) hw1
        have HX : Hid ((48 + (N : Int) % 100 % 10 = dig coef j ∧ 48 + (N : Int) % 100 / 10 = dig coef (j + 1)) ∧ N / 100 = coef / 10 ^ (j + 2) ∧ Buf w1 B (frac coef j ++ [48 + (N : Int) % 100 % 10, 48 + (N : Int) % 100 / 10])) := ⟨dig_pair HN.out, div_next2 HN.out, HP⟩
        have hbel1 := HS.1
        have g1 := (HS.2 w.heap.size 1 hB).trans e1
        have g2 := (HS.2 w.heap.size 2 hB).trans e2
        clear HS HP hw1 hbel e1 e2
        go_wp2
        go_roundw
        case rel =>
          obtain ⟨x1, x2, x3⟩ := HX.out
          refine ⟨N / 100, q, j + 2, kq, rfl, by omega, by go_num, by omega, by go_num, by omega, x2, ?_, hbel1, g1, g2⟩
          rw [frac_succ, frac_succ, ← x1.1, ← x1.2, List.append_assoc]
          exact x3
        case measure => simp [intOf]; omega
  case rest =>
    obtain ⟨N, p, rfl, hps, rfl, hN, HN, HB, hbel, e1, e2⟩ := hcut
    have hdt := dt_le s
    go_upto_if 42 with fail
    go_cut [5] (fun i wx => ∃ p : Nat, i = .int .i64 p ∧ p + s + dt s = 22 ∧ Hid (Buf wx B (body coef s 0)) ∧ Below B w wx ∧ wx.cell? ⟨w.heap.size, 2, none⟩ = some (.bool neg))
    case first =>
      by_cases hs0 : s = 0
      · have hd0 : dt s = 0 := by simp [dt, hs0]
        have hfr : frac coef s = body coef s 0 := by rw [body_zero]; simp [hs0]
        rw [hfr] at HB
        have hsI : (s : Int) ≤ 0 := by omega
        clear hfr
        go_wp2
        go_meet
        exact ⟨p, rfl, by omega, HB, hbel, e2⟩
      · have hd1 : dt s = 1 := by simp [dt, hs0]
        have hfr : frac coef s ++ [46] = body coef s 0 := by rw [body_zero]; simp [hs0]
        have hsI : (0 : Int) < (s : Int) := by omega
        obtain ⟨q, rfl⟩ : ∃ q, p = q + 1 := ⟨p - 1, by omega⟩
        obtain ⟨v0, d0⟩ := HB.out.2.1 q (by omega)
        have f0 := HB.out.2.2.1 q
        have HS := set_step (q := q) (x := .int .u8 46) hbel
        have HP := HB.out.push (n := q) (by rw [frac_len]; omega) 46
        rw [hfr] at HP
        have HX : Hid (Buf (wc.setCell ⟨B, q, none⟩ (.int .u8 46)) B (body coef s 0) ∧ Below B w (wc.setCell ⟨B, q, none⟩ (.int .u8 46)) ∧ (wc.setCell ⟨B, q, none⟩ (.int .u8 46)).cell? ⟨w.heap.size, 2, none⟩ = some (.bool neg)) := ⟨HP, HS.1, (HS.2 w.heap.size 2 hB).trans e2⟩
        clear hfr HS HP
        go_wp2
        go_meet
        exact ⟨q, rfl, by omega, HX.out.1, HX.out.2.1, HX.out.2.2⟩
    case rest =>
      clear e1 e2 hbel HB hps
      obtain ⟨p, rfl, hps, HB, hbel, e2⟩ := hcut
      go_wp2
      go_loopw [5, 6] (fun i c wx => ∃ N p t : Nat, i = .int .i64 p ∧ p + s + dt s + t = 22 ∧ c = .int .u64 N ∧ N ≤ 9999999999999999999 ∧ Hid (N = coef / 10 ^ (s + t) ∧ (t = 0 ∨ 1 ≤ N)) ∧ Hid (Buf wx B (body coef s t)) ∧ Below B w wx ∧ wx.cell? ⟨w.heap.size, 2, none⟩ = some (.bool neg)) (fun _ c _ => (intOf c).toNat)
      case atStart => exact ⟨N, p, 0, rfl, by omega, rfl, hN, ⟨HN.out, .inl rfl⟩, HB, hbel, e2⟩
      case round =>
        clear HB hbel e2 hps hN HN
        obtain ⟨N, p, t, rfl, hpt, rfl, hN, HN, HB, hbel, e2⟩ := hrel
        by_cases hge : 100 ≤ N
        · have hroom := le_of_div (k := 2) (m := s + t) hc (by rw [← HN.out.1]; exact hge)
          obtain ⟨q, rfl⟩ : ∃ q, p = q + 2 := ⟨p - 2, by omega⟩
          go_wp2_with fail
          refine (putPair_int B q _ wr _ HB.out (by omega) (by omega) (by omega)).mono ?_
          rintro e w1 ⟨rfl, hw1⟩
          have HS := pair_step hbel hw1
          have HP := HB.out.push2 (by rw [body_len']; omega) hw1
          have HX : Hid ((48 + (N : Int) % 100 % 10 = dig coef (s + t) ∧ 48 + (N : Int) % 100 / 10 = dig coef (s + t + 1)) ∧ N / 100 = coef / 10 ^ (s + t + 2) ∧ Buf w1 B (body coef s t ++ [48 + (N : Int) % 100 % 10, 48 + (N : Int) % 100 / 10])) := ⟨dig_pair HN.out.1, div_next2 HN.out.1, HP⟩
          have hbel1 := HS.1
          have g2 := (HS.2 w.heap.size 2 hB).trans e2
          clear HS HP hw1 hbel e2
          go_wp2
          go_roundw
          case rel =>
            obtain ⟨x1, x2, x3⟩ := HX.out
            refine ⟨N / 100, q, t + 2, rfl, by omega, by go_num, by omega, ⟨x2, .inr (by omega)⟩, ?_, hbel1, g2⟩
            rw [body_succ, body_succ, ← x1.1, ← Nat.add_assoc, ← x1.2, List.append_assoc]
            exact x3
          case measure => simp [intOf]; omega
        · by_cases hten : 10 ≤ N
          · have hroom := le_of_div (k := 1) (m := s + t) hc (by rw [← HN.out.1]; exact hten)
            obtain ⟨q, rfl⟩ : ∃ q, p = q + 2 := ⟨p - 2, by omega⟩
            go_wp2_with fail
            refine (putPair_int B q _ wr _ HB.out (by omega) (by omega) (by omega)).mono ?_
            rintro e w1 ⟨rfl, hw1⟩
            have hnd2 := nd_two HN.out.1 hten (by omega) Hnd.out
            have HS := pair_step hbel hw1
            have HP := HB.out.push2 (by rw [body_len']; omega) hw1
            have HQ : Hid (Buf w1 B (body coef s (t + 2))) := by
              have hx := dig_pair HN.out.1
              rw [show (N : Int) % 100 = N from by omega] at hx
              unfold Hid
              rw [body_succ, body_succ, ← hx.1, ← Nat.add_assoc, ← hx.2, List.append_assoc]
              exact HP
            have hbel1 := HS.1
            have g2 := (HS.2 w.heap.size 2 hB).trans e2
            clear HS HP hw1 hbel e2
            have hroom2 := nd_room hc hs Hnd.out
            subst hnd2
            cases neg
            · have hq22 : (q : Int) ≤ 22 := by omega
              have hal : Try.prog.arrayLen 37 = 22 := by kernel_rfl
              go_wp2
              go_ret
              exact fmt_pos HQ.out hbel1 (by omega)
            · obtain ⟨r, rfl⟩ : ∃ r, q = r + 1 := ⟨q - 1, by omega⟩
              have hq22 : (r : Int) ≤ 22 := by omega
              have hal : Try.prog.arrayLen 37 = 22 := by kernel_rfl
              obtain ⟨v9, d9⟩ := HQ.out.2.1 r (by omega)
              have f9 := HQ.out.2.2.1 r
              go_wp2
              go_ret
              exact fmt_neg HQ.out hbel1 (by omega)
          · have hnd2 := nd_one HN.out.1 HN.out.2 (by omega) Hnd.out
            obtain ⟨q, rfl⟩ : ∃ q, p = q + 1 := ⟨p - 1, by have := nd_room hc hs Hnd.out; omega⟩
            obtain ⟨v0, d0⟩ := HB.out.2.1 q (by omega)
            have f0 := HB.out.2.2.1 q
            have HS := set_step (q := q) (x := .int .u8 (48 + (N : Int))) hbel
            have HQ : Hid (Buf (wr.setCell ⟨B, q, none⟩ (.int .u8 (48 + (N : Int)))) B (body coef s (t + 1))) := by
              have hx := dig_at HN.out.1
              rw [show (N : Int) % 10 = N from by omega] at hx
              unfold Hid
              rw [body_succ, ← hx]
              exact HB.out.push (by rw [body_len']; omega) _
            have hbel1 := HS.1
            have g2 := (HS.2 w.heap.size 2 hB).trans e2
            have HG : Hid ((wr.setCell ⟨B, q, none⟩ (.int .u8 (48 + (N : Int)))).cell? ⟨w.heap.size, 2, none⟩ = some (.bool neg)) := g2
            have hroom2 := nd_room hc hs Hnd.out
            subst hnd2
            cases neg
            · have hq22 : (q : Int) ≤ 22 := by omega
              have hal : Try.prog.arrayLen 37 = 22 := by kernel_rfl
              go_wp2
              go_ret
              exact fmt_pos HQ.out hbel1 (by omega)
            · obtain ⟨r, rfl⟩ : ∃ r, q = r + 1 := ⟨q - 1, by omega⟩
              have hq22 : (r : Int) ≤ 22 := by omega
              have hal : Try.prog.arrayLen 37 = 22 := by kernel_rfl
              obtain ⟨v9, d9⟩ := HB.out.2.1 r (by omega)
              have f9 := HB.out.2.2.1 r
              go_wp2
              go_ret
              exact fmt_neg HQ.out hbel1 (by omega)
end Go.Proofs.Qxb6618375a
