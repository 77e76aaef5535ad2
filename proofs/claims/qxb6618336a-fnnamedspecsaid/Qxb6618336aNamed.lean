/-
  resources.Named: the first of the asked group, else (asked without a group) the first of the name.
-/
import Derived.Test.Qxb6618336aToRes
namespace Go.Proofs.Qxb6618336a
open Go.RowKit

def zeroR : R := ⟨.empty, .empty, .empty, .empty, .empty, false⟩

/-- Named, told plainly. -/
def namedF (g nm : ByteArray) : R → Bool → List R → R × Bool
  | first, found, [] => (first, found)
  | first, found, r :: rs =>
    if nameIs r nm then
      if (r.g.toList == g.toList) then (r, true)
      else if g.toList.isEmpty && !found then namedF g nm r true rs else namedF g nm first found rs
    else namedF g nm first found rs

def Box (w : World) (b : Nat) (r : R) : Prop := b < w.heap.size ∧ Cells w b 0 r ∧ ∀ j, w.frozen? ⟨b, j, none⟩ = false

def NamedPost (w : World) (q : R × Bool) (e : Ending) (w' : World) : Prop := e = .returned (.tuple #[q.1.val, .bool q.2]) ∧ Below w.heap.size w w'

theorem Box.alloc {w : World} {b : Nat} {r : R} (h : Box w b r) (o : Obj) : Box (w.alloc o) b r := by
  have hb : Below w.heap.size w (w.alloc o) := (Below.refl _ _).alloc (Nat.le_refl _) o
  exact ⟨Nat.lt_of_lt_of_le h.1 hb.size, h.2.1.below hb h.1, fun j => (hb.frozen (p := ⟨b, j, none⟩) h.1).trans (h.2.2 j)⟩

theorem Box.put6_other {w : World} {b b' o : Nat} {r r' : R} (h : Box w b r) (hne : b ≠ b') : Box (put6 w b' o r') b r :=
  ⟨by rw [put6_size]; exact h.1, h.2.1.put6_other (fun e => absurd e hne), fun j => by rw [put6_frozen]; exact h.2.2 j⟩

theorem Box.put6_self {w : World} {b : Nat} {r r' : R} (h : Box w b r) : Box (put6 w b 0 r') b r' := by
  obtain ⟨h1, ⟨c0, c1, c2, c3, c4, c5⟩, h3⟩ := h
  refine ⟨by rw [put6_size]; exact h1, put6_cells _ _ _ _ (fun j hj => ?_), fun j => by rw [put6_frozen]; exact h3 j⟩
  match j, hj with
  | 0, _ => exact ⟨_, c0⟩
  | 1, _ => exact ⟨_, c1⟩
  | 2, _ => exact ⟨_, c2⟩
  | 3, _ => exact ⟨_, c3⟩
  | 4, _ => exact ⟨_, c4⟩
  | 5, _ => exact ⟨_, c5⟩

theorem Box.new (w : World) (r : R) (t : TypeId) : Box (w.alloc (.cells #[.string r.g, .string r.v, .string r.p, .string r.s, .string r.k, .bool r.n] t)) w.heap.size r :=
  ⟨by simp, by simp [Cells], by simp⟩

/-- Six stores from a block's head on, the offsets written out. -/
def put60 (w : World) (b : Nat) (r : R) : World :=
  (((((w.setCell ⟨b, 0, none⟩ (.string r.g)).setCell ⟨b, 1, none⟩ (.string r.v)).setCell ⟨b, 2, none⟩ (.string r.p)).setCell ⟨b, 3, none⟩ (.string r.s)).setCell ⟨b, 4, none⟩ (.string r.k)).setCell ⟨b, 5, none⟩ (.bool r.n)
theorem put60_eq (w : World) (b : Nat) (r : R) : put60 w b r = put6 w b 0 r := rfl

theorem put60_below {B : Nat} {w0 w : World} (h : Below B w0 w) {b : Nat} (hb : B ≤ b) (r : R) : Below B w0 (put60 w b r) := put6_below h hb 0 r
theorem put60_below_alloc {B : Nat} {w0 w : World} (h : Below B w0 w) {b : Nat} (hb : B ≤ b) (hs : B ≤ w.heap.size) (r : R) (o : Obj) : Below B w0 ((put60 w b r).alloc o) :=
  (put60_below h hb r).alloc (by rw [put60_eq, put6_size]; exact hs) o

/-- What a round that finds the first of its name does to the two boxes. -/
theorem first_boxes {B : Nat} {w0 w : World} {z f : R} (h : Below B w0 w) (hs : B ≤ w.heap.size) (h0 : Box w B z) (h1 : Box w (B + 1) f) (r : R) (o : Obj) :
    Below B w0 ((put60 w (B + 1) r).alloc o) ∧ Box ((put60 w (B + 1) r).alloc o) B z ∧ Box ((put60 w (B + 1) r).alloc o) (B + 1) r := by
  refine ⟨put60_below_alloc h (Nat.le_succ _) hs r o, Box.alloc ?_ o, Box.alloc ?_ o⟩
  · rw [put60_eq]; exact h0.put6_other (by omega)
  · rw [put60_eq]; exact h1.put6_self

theorem nameIs_p {r : R} {nm : ByteArray} (h : nm.toList = r.p.toList) : nameIs r nm = true := by simp [nameIs, h]
theorem nameIs_ps {r : R} {nm : ByteArray} (h : (!nm.toList == r.p.toList) = false ∨ (!nm.toList == r.s.toList) = false) : nameIs r nm = true := by
  simp only [Bool.not_eq_false', beq_iff_eq] at h
  rcases h with h | h <;> simp [nameIs, h]
theorem nameIs_no {r : R} {nm : ByteArray} (h : (!nm.toList == r.p.toList) = true ∧ (!nm.toList == r.s.toList) = true) : nameIs r nm = false := by
  simp only [Bool.not_eq_true', beq_eq_false_iff_ne] at h
  simp only [nameIs, Bool.or_eq_false_iff, beq_eq_false_iff_ne]
  exact ⟨fun e => h.1 e.symm, fun e => h.2 e.symm⟩

section
variable {g nm : ByteArray} {first : R} {found : Bool} {rs : List R} {k : Nat} {q : R × Bool} {r : R}
theorem drop_of (hr : rs[k]? = some r) : rs.drop k = r :: rs.drop (k + 1) := by
  obtain ⟨h, rfl⟩ := List.getElem?_eq_some_iff.1 hr
  exact List.drop_eq_getElem_cons h

theorem namedF_miss (hr : rs[k]? = some r) (hN : Hid (namedF g nm first found (rs.drop k) = q)) (h : nameIs r nm = false) : Hid (namedF g nm first found (rs.drop (k + 1)) = q) := by
  have := hN.out
  rw [drop_of hr, namedF, h] at this
  exact this
theorem namedF_hit (hr : rs[k]? = some r) (hN : Hid (namedF g nm first found (rs.drop k) = q)) (h : nameIs r nm = true) (h2 : (r.g.toList == g.toList) = true) : q = (r, true) := by
  have := hN.out
  rw [drop_of hr, namedF, h, h2] at this
  exact this.symm
theorem namedF_first (hr : rs[k]? = some r) (hN : Hid (namedF g nm first found (rs.drop k) = q)) (h : nameIs r nm = true) (h2 : (r.g.toList == g.toList) = false) (h3 : g.toList = []) (h4 : (!found) = true) : Hid (namedF g nm r true (rs.drop (k + 1)) = q) := by
  have := hN.out
  rw [drop_of hr, namedF, h, h2, h3, h4] at this
  exact this
theorem namedF_later (hr : rs[k]? = some r) (hN : Hid (namedF g nm first found (rs.drop k) = q)) (h : nameIs r nm = true) (h2 : (r.g.toList == g.toList) = false) (h3 : ¬ g.toList = [] ∨ (!found) = false) : Hid (namedF g nm first found (rs.drop (k + 1)) = q) := by
  have := hN.out
  have hc : (g.toList.isEmpty && !found) = false := by
    rcases h3 with h | h
    · simp [h]
    · simp [h]
  rw [drop_of hr, namedF, h, h2, hc] at this
  exact this
theorem namedF_end (hk : rs.length = k) (hN : Hid (namedF g nm first found (rs.drop k) = q)) : q = (first, found) := by
  have := hN.out
  rw [List.drop_of_length_le (by omega), namedF] at this
  exact this.symm
end

set_option maxHeartbeats 2000000 in
theorem named_any (g nm : ByteArray) (a : Option Addr) (len cap : Nat) (rs : List R) (w : World) (hl : len ≤ 1048576) (hz : IsZ w a len rs) :
    Calls Try.prog 8 #[.slice a len cap, .string g, .string nm] w (NamedPost w (namedF g nm zeroR false rs)) := by
  generalize hq : namedF g nm zeroR false rs = q
  have Hq : Hid (namedF g nm zeroR false rs = q) := hq
  clear hq
  go_enter Try.func8, Try.ntmps8
  go_wp2
  go_loopw [9, 14] (fun f i wr => ∃ k : Nat, ∃ first : R, ∃ found : Bool, k ≤ len ∧ i = .int .i64 k ∧ f = .bool found ∧ Below w.heap.size w wr ∧ Box wr w.heap.size zeroR ∧ Box wr (w.heap.size + 1) first ∧ Hid (namedF g nm first found (rs.drop k) = q)) (fun _ i _ => len - (intOf i).toNat)
  case atStart => 
    have b0 := (Box.new w zeroR 29).alloc (.cells #[.string zeroR.g, .string zeroR.v, .string zeroR.p, .string zeroR.s, .string zeroR.k, .bool zeroR.n] 29)
    have b1 := Box.new (w.alloc (.cells #[.string zeroR.g, .string zeroR.v, .string zeroR.p, .string zeroR.s, .string zeroR.k, .bool zeroR.n] 29)) zeroR 29
    rw [World.size_alloc] at b1
    exact ⟨0, zeroR, false, Nat.zero_le _, rfl, rfl, ((Below.refl _ _).alloc (Nat.le_refl _) _).alloc (by simp) _, b0, b1, Hq⟩
  case round =>
    obtain ⟨k, ⟨fg, fv, fp, fs, fk, fn⟩, found, hk, rfl, rfl, hb, bx0, bx1, hN⟩ := hrel
    obtain ⟨hB0, ⟨z0, z1, z2, z3, z4, z5⟩, y⟩ := bx0
    obtain ⟨hB1, ⟨x0, x1, x2, x3, x4, x5⟩, xf⟩ := bx1
    have bx0 : Box wr w.heap.size zeroR := ⟨hB0, ⟨z0, z1, z2, z3, z4, z5⟩, y⟩
    have bx1 : Box wr (w.heap.size + 1) ⟨fg, fv, fp, fs, fk, fn⟩ := ⟨hB1, ⟨x0, x1, x2, x3, x4, x5⟩, xf⟩
    simp only [Nat.zero_add] at z1 z2 z3 z4 z5 x1 x2 x3 x4 x5
    have hsz := hb.size
    by_cases hlt : k < len
    · obtain ⟨b, off, r, rfl, hr, c0, c1, c2, c3, c4, c5⟩ := hz.at hb hlt
      have HR : Hid (rs[k]? = some r) := hr
      have HX : Hid (Box wr w.heap.size zeroR ∧ Box wr (w.heap.size + 1) ⟨fg, fv, fp, fs, fk, fn⟩) := ⟨bx0, bx1⟩
      have HF : Hid (∀ o, Below w.heap.size w ((put60 wr (w.heap.size + 1) r).alloc o) ∧ Box ((put60 wr (w.heap.size + 1) r).alloc o) w.heap.size zeroR ∧ Box ((put60 wr (w.heap.size + 1) r).alloc o) (w.heap.size + 1) r) := fun o => first_boxes hb hsz bx0 bx1 r o
      have HG : Hid (∀ o, Below w.heap.size w ((put60 wr w.heap.size r).alloc o)) := fun o => put60_below_alloc hb (Nat.le_refl _) hsz r o
      clear hr bx0 bx1
      obtain ⟨rg, rv, rp, rrs, rk, rn⟩ := r
      go_wp2
      -- ret
      · have hq := namedF_hit HR.out hN (nameIs_p (by assumption)) (by assumption)
        subst hq
        refine bodyPost_ret (v := .tuple #[.agg #[.string rg, .string rv, .string rp, .string rrs, .string rk, .bool rn], .bool true]) (by simp [results, Try.results8, go_sem, z0, z1, z2, z3, z4, z5, hB0]) rfl ⟨rfl, ?_⟩
        exact HG.out _
      · go_roundw
        case rel => exact ⟨k + 1, ⟨rg, rv, rp, rrs, rk, rn⟩, true, by omega, by go_num, rfl, (HF.out _).1, (HF.out _).2.1, (HF.out _).2.2, namedF_first HR.out hN (nameIs_p (by assumption)) (by assumption) (by assumption) (by assumption)⟩
        case measure => simp [intOf]; omega
      · go_roundw
        case rel => exact ⟨k + 1, _, found, by omega, by go_num, rfl, hb.alloc (by omega) _, HX.out.1.alloc _, HX.out.2.alloc _, namedF_later HR.out hN (nameIs_p (by assumption)) (by assumption) (.inr (by assumption))⟩
        case measure => simp [intOf]; omega
      · go_roundw
        case rel => exact ⟨k + 1, _, found, by omega, by go_num, rfl, hb.alloc (by omega) _, HX.out.1.alloc _, HX.out.2.alloc _, namedF_later HR.out hN (nameIs_p (by assumption)) (by assumption) (.inl (by assumption))⟩
        case measure => simp [intOf]; omega
      · go_roundw
        case rel => exact ⟨k + 1, _, found, by omega, by go_num, rfl, hb.alloc (by omega) _, HX.out.1.alloc _, HX.out.2.alloc _, namedF_miss HR.out hN (nameIs_no (by assumption))⟩
        case measure => simp [intOf]; omega
      · have hq := namedF_hit HR.out hN (nameIs_ps (by assumption)) (by assumption)
        subst hq
        refine bodyPost_ret (v := .tuple #[.agg #[.string rg, .string rv, .string rp, .string rrs, .string rk, .bool rn], .bool true]) (by simp [results, Try.results8, go_sem, z0, z1, z2, z3, z4, z5, hB0]) rfl ⟨rfl, ?_⟩
        exact HG.out _
      · go_roundw
        case rel => exact ⟨k + 1, ⟨rg, rv, rp, rrs, rk, rn⟩, true, by omega, by go_num, rfl, (HF.out _).1, (HF.out _).2.1, (HF.out _).2.2, namedF_first HR.out hN (nameIs_ps (by assumption)) (by assumption) (by assumption) (by assumption)⟩
        case measure => simp [intOf]; omega
      · go_roundw
        case rel => exact ⟨k + 1, _, found, by omega, by go_num, rfl, hb.alloc (by omega) _, HX.out.1.alloc _, HX.out.2.alloc _, namedF_later HR.out hN (nameIs_ps (by assumption)) (by assumption) (.inr (by assumption))⟩
        case measure => simp [intOf]; omega
      · go_roundw
        case rel => exact ⟨k + 1, _, found, by omega, by go_num, rfl, hb.alloc (by omega) _, HX.out.1.alloc _, HX.out.2.alloc _, namedF_later HR.out hN (nameIs_ps (by assumption)) (by assumption) (.inl (by assumption))⟩
        case measure => simp [intOf]; omega
    · obtain rfl : k = len := by omega
      go_wp2
      have hq := namedF_end hz.1 hN
      subst hq
      refine bodyPost_ret (v := .tuple #[.agg #[.string fg, .string fv, .string fp, .string fs, .string fk, .bool fn], .bool found]) (by simp [results, Try.results8, go_sem, z0, z1, z2, z3, z4, z5]) rfl ⟨rfl, ?_⟩
      exact put60_below hb (Nat.le_refl _) ⟨fg, fv, fp, fs, fk, fn⟩
end Go.Proofs.Qxb6618336a
