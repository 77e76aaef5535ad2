/-
  THE WALK OF FnMarshalJSONTrailingZero.
-/
import Derived.Test.Qxb6618375aTzPlain
namespace Go.Proofs.Qxb6618375a
open Go.RowKit
set_option linter.unusedVariables false

def LawPost (w : World) (e : Ending) (w' : World) : Prop := e = .returned (.bool true) ∧ Below w.heap.size w w'
theorem LawPost.same {w : World} : LawPost w (.returned (.bool true)) w := ⟨rfl, Below.refl _ _⟩

/-- A decimal's box. -/
def DBox (w : World) (b : Nat) (c s : Int) (n : Bool) : Prop := b < w.heap.size ∧ w.cell? ⟨b, 0, none⟩ = some (.int .u64 c) ∧ w.cell? ⟨b, 1, none⟩ = some (.int .u8 s) ∧ w.cell? ⟨b, 2, none⟩ = some (.bool n)
theorem DBox.below {w w' : World} {b : Nat} {c s : Int} {n : Bool} (h : DBox w b c s n) (hb : Below w.heap.size w w') : DBox w' b c s n :=
  ⟨Nat.lt_of_lt_of_le h.1 hb.size, (hb.cell (p := ⟨b, 0, none⟩) h.1).trans h.2.1, (hb.cell (p := ⟨b, 1, none⟩) h.1).trans h.2.2.1, (hb.cell (p := ⟨b, 2, none⟩) h.1).trans h.2.2.2⟩
theorem DBox.new (w : World) (c s : Int) (n : Bool) : DBox (w.alloc (.cells #[.int .u64 c, .int .u8 s, .bool n] 24)) w.heap.size c s n := ⟨by simp, by simp, by simp, by simp⟩

theorem IsB.below {w w' : World} {G : Nat} {T : List Int} (h : IsB w G T) (hb : Below w.heap.size w w') : IsB w' G T :=
  ⟨Nat.lt_of_lt_of_le h.1 hb.size, fun i hi => (hb.cell (p := ⟨G, i, none⟩) h.1).trans (h.2 i hi)⟩

theorem one_more {w0 w : World} (h : Below w0.heap.size w0 w) (o : Obj) : Below w0.heap.size w0 (w.alloc o) := h.alloc h.size o
theorem alloc_below (w : World) (o : Obj) : Below w.heap.size w (w.alloc o) := (Below.refl _ _).alloc (Nat.le_refl _) o

theorem tz_zero' (Ga Gb la lb n : Nat) (U : List Int) (w : World) (hla : la = n + 1) (hlb : lb = n + 3) (hn : U.length = n) (hn0 : 0 < n) (hn22 : n ≤ 30) (ha : IsB w Ga (U ++ [34])) (hb : IsB w Gb (U ++ [46, 48, 34])) :
    Calls Try.prog 11 #[.slice (some ⟨Ga, 0, none⟩) la la, .slice (some ⟨Gb, 0, none⟩) lb lb, .int .u8 0] w (ReadPost w) := by
  subst hla; subst hlb; exact tz_zero Ga Gb n U w hn hn0 hn22 ha hb
theorem tz_pos' (Ga Gb la lb n s : Nat) (U : List Int) (w : World) (hs : 0 < s) (hla : la = n + 1) (hlb : lb = n + 2) (hn : U.length = n) (hn0 : 0 < n) (hn22 : n ≤ 30) (ha : IsB w Ga (U ++ [34])) (hb : IsB w Gb (U ++ [48, 34])) :
    Calls Try.prog 11 #[.slice (some ⟨Ga, 0, none⟩) la la, .slice (some ⟨Gb, 0, none⟩) lb lb, .int .u8 s] w (ReadPost w) := by
  subst hla; subst hlb; exact tz_pos Ga Gb n s U w hs hn hn0 hn22 ha hb

set_option maxRecDepth 100000 in
set_option maxHeartbeats 2000000 in
theorem tz_main_false (coef s nd c10 s1 p n0 : Nat) (rv rv' : List Int) (w : World) (h1 : ¬ (10000000000000000000 : Int) ≤ coef) (h2 : ¬ (19 : Int) < s) (h3 : ¬ (19 : Int) ≤ s) (h4 : ¬ (999999999999999999 : Int) < coef)
    (e10 : (coef : Int) * 10 = (c10 : Int)) (es1 : (s : Int) + 1 = (s1 : Int)) (Hp : Hid (p = 10 ^ s)) (hp : 0 < (p : Int)) (eq : (coef : Int) / (p : Int) = (n0 : Int))
    (Hnd : Hid (IsNd (coef / 10 ^ s) nd)) (Hn0 : Hid (n0 = coef / 10 ^ s)) (Hnd' : Hid (IsNd (c10 / 10 ^ s1) nd)) (Hrv : Hid (rev coef s nd false = rv)) (Hrv' : Hid (rev c10 s1 nd false = rv')) (hl : rv.length ≤ 22) (hl' : rv'.length ≤ 22)
    (hc10 : c10 ≤ 9999999999999999999) (hs1 : s1 ≤ 19) (hn0 : n0 < 10000000000000000000) (hnd1 : 1 ≤ nd) (hhead : rv[0]? = some (48 + (coef : Int) % 10))
    (rest0 : s = 0 → rv.length = nd + 0 ∧ rv' = 48 :: 46 :: rv) (rest1 : 0 < s → rv.length = s + 1 + nd + 0 ∧ rv' = 48 :: rv) :
    Calls Try.prog 4 #[.int .u64 coef, .int .u8 s, .bool false] w (LawPost w) := by
  go_enter Try.func4, Try.ntmps4
  go_wp2_with fail
  refine (new_any _ _ _ _).mono ?_
  rintro e w1 ⟨rfl, bel1⟩
  go_wp2_with fail
  refine (new_any _ _ _ _).mono ?_
  rintro e w2 ⟨rfl, bel2⟩
  have bx2 := (DBox.new w1 coef s false).below bel2
  have b02 := (one_more bel1 (.cells #[.int .u64 coef, .int .u8 s, .bool false] 24)).trans (bel2.mono (one_more bel1 _).size)
  clear bel1 bel2
  generalize w1.heap.size = B1 at *
  obtain ⟨l1, x0, x1, x2⟩ := bx2
  go_wp2_with fail
  have by3 := DBox.new w2 c10 s1 false
  have b03 := one_more b02 (.cells #[.int .u64 c10, .int .u8 s1, .bool false] 24)
  clear l1 x0 x1 x2 b02
  generalize w2.alloc (.cells #[.int .u64 c10, .int .u8 s1, .bool false] 24) = w3 at *
  generalize w2.heap.size = B2 at *
  refine (marshal_any coef s nd false rv w3 (by omega) (by omega) Hnd Hrv hl).mono ?_
  rintro e w4 ⟨Ga, rfl, hIa, bel4⟩
  have by4 := by3.below bel4
  have b04 := b03.trans (bel4.mono b03.size)
  clear by3 bel4 b03
  obtain ⟨l2, y0, y1, y2⟩ := by4
  go_wp2_with fail
  refine (marshal_any c10 s1 nd false rv' w4 hc10 hs1 Hnd' Hrv' hl').mono ?_
  rintro e w5 ⟨Gb, rfl, hIb, bel5⟩
  have hIa5 := hIa.below bel5
  have b05 := b04.trans (bel5.mono b04.size)
  clear y0 y1 y2 l2 bel5 b04 hIa
  go_wp2_with fail
  refine (pow10_any s p (by omega) Hp w5).mono ?_
  rintro e w6 ⟨rfl, hw⟩
  subst w6
  go_wp2_with fail
  refine (digits_any n0 nd hn0 (by rw [Hn0.out]; exact Hnd.out) w5).mono ?_
  rintro e w6 ⟨rfl, hw⟩
  subst w6
  have cl := hIa5.at (quoted_last hhead)
  by_cases hs0 : s = 0
  · subst hs0
    have HZ : Hid (rv' = 48 :: 46 :: rv) := (rest0 rfl).2
    have ll1 := Nat.le_of_eq (rest0 rfl).1
    have ll2 := Nat.le_of_eq (rest0 rfl).1.symm
    have ll3 : rv'.length ≤ rv.length + 2 := by rw [HZ.out]; simp
    have ll4 : rv.length + 2 ≤ rv'.length := by rw [HZ.out]; simp
    clear rest1 rest0 hhead es1 e10 eq h1 h2 h3 h4 hc10 hn0
    go_wp2_with fail
    refine (tz_zero' Ga Gb (rv.length + 2) (rv'.length + 2) (rv.length + 1) (34 :: rv.reverse) w5 (by omega) (by omega) (by simp) (by omega) (by omega) (by rw [← quoted_cons]; exact hIa5) (by rw [← quoted_two, ← HZ.out]; exact hIb)).mono ?_
    rintro e w6 ⟨rfl, t, rfl⟩
    go_wp2
    go_ret
    exact ⟨rfl, below_drewN b05 t⟩
  · have HZ : Hid (rv' = 48 :: rv) := (rest1 (by omega)).2
    have ll1 := Nat.le_of_eq (rest1 (by omega)).1
    have ll2 := Nat.le_of_eq (rest1 (by omega)).1.symm
    have ll3 : rv'.length ≤ rv.length + 1 := by rw [HZ.out]; simp
    have ll4 : rv.length + 1 ≤ rv'.length := by rw [HZ.out]; simp
    have hsI : (0 : Int) < (s : Int) := by omega
    clear rest1 rest0 hhead es1 e10 eq h1 h2 h3 h4 hc10 hn0
    go_wp2_with fail
    refine (tz_pos' Ga Gb (rv.length + 2) (rv'.length + 2) (rv.length + 1) s (34 :: rv.reverse) w5 (by omega) (by omega) (by omega) (by simp) (by omega) (by omega) (by rw [← quoted_cons]; exact hIa5) (by rw [← quoted_one, ← HZ.out]; exact hIb)).mono ?_
    rintro e w6 ⟨rfl, t, rfl⟩
    go_wp2
    go_ret
    exact ⟨rfl, below_drewN b05 t⟩

set_option maxRecDepth 100000 in
set_option maxHeartbeats 2000000 in
theorem tz_main_true (coef s nd c10 s1 p n0 : Nat) (rv rv' : List Int) (w : World) (h1 : ¬ (10000000000000000000 : Int) ≤ coef) (h2 : ¬ (19 : Int) < s) (h3 : ¬ (19 : Int) ≤ s) (h4 : ¬ (999999999999999999 : Int) < coef) (h0 : ((coef : Int) == 0) = false)
    (e10 : (coef : Int) * 10 = (c10 : Int)) (es1 : (s : Int) + 1 = (s1 : Int)) (Hp : Hid (p = 10 ^ s)) (hp : 0 < (p : Int)) (eq : (coef : Int) / (p : Int) = (n0 : Int))
    (Hnd : Hid (IsNd (coef / 10 ^ s) nd)) (Hn0 : Hid (n0 = coef / 10 ^ s)) (Hnd' : Hid (IsNd (c10 / 10 ^ s1) nd)) (Hrv : Hid (rev coef s nd true = rv)) (Hrv' : Hid (rev c10 s1 nd true = rv')) (hl : rv.length ≤ 22) (hl' : rv'.length ≤ 22)
    (hc10 : c10 ≤ 9999999999999999999) (hs1 : s1 ≤ 19) (hn0 : n0 < 10000000000000000000) (hnd1 : 1 ≤ nd) (hhead : rv[0]? = some (48 + (coef : Int) % 10))
    (rest0 : s = 0 → rv.length = nd + 1 ∧ rv' = 48 :: 46 :: rv) (rest1 : 0 < s → rv.length = s + 1 + nd + 1 ∧ rv' = 48 :: rv) :
    Calls Try.prog 4 #[.int .u64 coef, .int .u8 s, .bool true] w (LawPost w) := by
  go_enter Try.func4, Try.ntmps4
  go_wp2_with fail
  refine (new_any _ _ _ _).mono ?_
  rintro e w1 ⟨rfl, bel1⟩
  go_wp2_with fail
  refine (new_any _ _ _ _).mono ?_
  rintro e w2 ⟨rfl, bel2⟩
  have bx2 := (DBox.new w1 coef s true).below bel2
  have b02 := (one_more bel1 (.cells #[.int .u64 coef, .int .u8 s, .bool true] 24)).trans (bel2.mono (one_more bel1 _).size)
  clear bel1 bel2
  generalize w1.heap.size = B1 at *
  obtain ⟨l1, x0, x1, x2⟩ := bx2
  go_wp2_with fail
  have by3 := DBox.new w2 c10 s1 true
  have b03 := one_more b02 (.cells #[.int .u64 c10, .int .u8 s1, .bool true] 24)
  clear l1 x0 x1 x2 b02
  generalize w2.alloc (.cells #[.int .u64 c10, .int .u8 s1, .bool true] 24) = w3 at *
  generalize w2.heap.size = B2 at *
  refine (marshal_any coef s nd true rv w3 (by omega) (by omega) Hnd Hrv hl).mono ?_
  rintro e w4 ⟨Ga, rfl, hIa, bel4⟩
  have by4 := by3.below bel4
  have b04 := b03.trans (bel4.mono b03.size)
  clear by3 bel4 b03
  obtain ⟨l2, y0, y1, y2⟩ := by4
  go_wp2_with fail
  refine (marshal_any c10 s1 nd true rv' w4 hc10 hs1 Hnd' Hrv' hl').mono ?_
  rintro e w5 ⟨Gb, rfl, hIb, bel5⟩
  have hIa5 := hIa.below bel5
  have b05 := b04.trans (bel5.mono b04.size)
  clear y0 y1 y2 l2 bel5 b04 hIa
  go_wp2_with fail
  refine (pow10_any s p (by omega) Hp w5).mono ?_
  rintro e w6 ⟨rfl, hw⟩
  subst w6
  go_wp2_with fail
  refine (digits_any n0 nd hn0 (by rw [Hn0.out]; exact Hnd.out) w5).mono ?_
  rintro e w6 ⟨rfl, hw⟩
  subst w6
  have cl := hIa5.at (quoted_last hhead)
  by_cases hs0 : s = 0
  · subst hs0
    have HZ : Hid (rv' = 48 :: 46 :: rv) := (rest0 rfl).2
    have ll1 := Nat.le_of_eq (rest0 rfl).1
    have ll2 := Nat.le_of_eq (rest0 rfl).1.symm
    have ll3 : rv'.length ≤ rv.length + 2 := by rw [HZ.out]; simp
    have ll4 : rv.length + 2 ≤ rv'.length := by rw [HZ.out]; simp
    clear rest1 rest0 hhead es1 e10 eq h1 h2 h3 h4 hc10 hn0
    go_wp2_with fail
    refine (tz_zero' Ga Gb (rv.length + 2) (rv'.length + 2) (rv.length + 1) (34 :: rv.reverse) w5 (by omega) (by omega) (by simp) (by omega) (by omega) (by rw [← quoted_cons]; exact hIa5) (by rw [← quoted_two, ← HZ.out]; exact hIb)).mono ?_
    rintro e w6 ⟨rfl, t, rfl⟩
    go_wp2
    go_ret
    exact ⟨rfl, below_drewN b05 t⟩
  · have HZ : Hid (rv' = 48 :: rv) := (rest1 (by omega)).2
    have ll1 := Nat.le_of_eq (rest1 (by omega)).1
    have ll2 := Nat.le_of_eq (rest1 (by omega)).1.symm
    have ll3 : rv'.length ≤ rv.length + 1 := by rw [HZ.out]; simp
    have ll4 : rv.length + 1 ≤ rv'.length := by rw [HZ.out]; simp
    have hsI : (0 : Int) < (s : Int) := by omega
    clear rest1 rest0 hhead es1 e10 eq h1 h2 h3 h4 hc10 hn0
    go_wp2_with fail
    refine (tz_pos' Ga Gb (rv.length + 2) (rv'.length + 2) (rv.length + 1) s (34 :: rv.reverse) w5 (by omega) (by omega) (by omega) (by simp) (by omega) (by omega) (by rw [← quoted_cons]; exact hIa5) (by rw [← quoted_one, ← HZ.out]; exact hIb)).mono ?_
    rintro e w6 ⟨rfl, t, rfl⟩
    go_wp2
    go_ret
    exact ⟨rfl, below_drewN b05 t⟩

set_option maxRecDepth 100000 in
set_option maxHeartbeats 2000000 in
theorem tz_walk (coef s : Nat) (neg : Bool) (w : World) :
    Calls Try.prog 4 #[.int .u64 coef, .int .u8 s, .bool neg] w (LawPost w) := by
  by_cases h1 : (10000000000000000000 : Int) ≤ coef
  · go_enter Try.func4, Try.ntmps4
    go_wp2
    go_ret
    exact LawPost.same
  by_cases h2 : (19 : Int) < s
  · go_enter Try.func4, Try.ntmps4
    go_wp2
    go_ret
    exact LawPost.same
  by_cases h3 : (19 : Int) ≤ s
  · cases neg
    · go_enter Try.func4, Try.ntmps4
      go_wp2
      go_ret
      exact LawPost.same
    · go_enter Try.func4, Try.ntmps4
      go_wp2
      all_goals
        go_ret
        exact LawPost.same
  by_cases h4 : (999999999999999999 : Int) < coef
  · have h5 : ((coef : Int) == 0) = false := beq_eq_false_iff_ne.2 (by omega)
    cases neg
    · go_enter Try.func4, Try.ntmps4
      go_wp2
      go_ret
      exact LawPost.same
    · go_enter Try.func4, Try.ntmps4
      go_wp2
      go_ret
      exact LawPost.same
  by_cases h5 : neg = true ∧ coef = 0
  · obtain ⟨rfl, rfl⟩ := h5
    go_enter Try.func4, Try.ntmps4
    go_wp2
    go_ret
    exact LawPost.same
  have h6 : neg = true → ((coef : Int) == 0) = false := fun hn => beq_eq_false_iff_ne.2 (fun e => h5 ⟨hn, by omega⟩)
  have hcs : coef / 10 ^ s < 10000000000000000000 := Nat.lt_of_le_of_lt (Nat.div_le_self _ _) (by omega)
  obtain ⟨nd, hnd⟩ := isNd_ex (coef / 10 ^ s) hcs
  have hp : 0 < ((10 ^ s : Nat) : Int) := by have := pow_pos' s; omega
  have hroom := nd_room (by omega) (by omega) hnd
  have hnd' : IsNd (coef * 10 / 10 ^ (s + 1)) nd := by rw [div_ten]; exact hnd
  have hroom' := nd_room (s := s + 1) (by omega) (by omega) hnd'
  have hl : ∀ b, (rev coef s nd b).length ≤ 22 := fun b => by rw [rev_len]; split <;> omega
  have hl' : ∀ b, (rev (coef * 10) (s + 1) nd b).length ≤ 22 := fun b => by rw [rev_len]; split <;> omega
  have hh : ∀ b, (rev coef s nd b)[0]? = some (48 + (coef : Int) % 10) := fun b => by
    rw [rev_head _ _ _ _ hnd.1]
    unfold dig
    simp
  cases neg
  · exact tz_main_false coef s nd (coef * 10) (s + 1) (10 ^ s) (coef / 10 ^ s) _ _ w h1 h2 h3 h4 (by omega) (by omega) rfl hp (by simp) hnd rfl hnd' rfl rfl (hl _) (hl' _) (by omega) (by omega) hcs hnd.1 (hh _)
      (fun e => ⟨by rw [rev_len, e]; simp [dt], by subst e; exact rev_ten_zero _ _ _⟩) (fun e => ⟨by rw [rev_len]; simp [dt, show ¬ s = 0 from by omega], rev_ten_pos _ _ _ _ e⟩)
  · exact tz_main_true coef s nd (coef * 10) (s + 1) (10 ^ s) (coef / 10 ^ s) _ _ w h1 h2 h3 h4 (h6 rfl) (by omega) (by omega) rfl hp (by simp) hnd rfl hnd' rfl rfl (hl _) (hl' _) (by omega) (by omega) hcs hnd.1 (hh _)
      (fun e => ⟨by rw [rev_len, e]; simp [dt], by subst e; exact rev_ten_zero _ _ _⟩) (fun e => ⟨by rw [rev_len]; simp [dt, show ¬ s = 0 from by omega], rev_ten_pos _ _ _ _ e⟩)
end Go.Proofs.Qxb6618375a
