/-
  zzToRes: a slice of resources is laid anew, resource by resource.
-/
import Derived.Test.Qxb6618336aSmall
namespace Go.Proofs.Qxb6618336a
open Go.RowKit

theorem Try.info29 : (Try.prog.info? 29).map (fun i => (i.zero, i.size, i.bytes)) = some (some (.agg #[.string ByteArray.empty, .string ByteArray.empty, .string ByteArray.empty, .string ByteArray.empty, .string ByteArray.empty, .bool false]), 6, 88) := by kernel_rfl

theorem conv_at (g v p s k : ByteArray) (n : Bool) (w : World) :
    Calls Try.prog 10 #[.agg #[.string g, .string v, .string p, .string s, .string k, .bool n]] w fun e w' => e = .returned (.agg #[.string g, .string v, .string p, .string s, .string k, .bool n]) ∧ Below w.heap.size w w' := conv_any ⟨g, v, p, s, k, n⟩ w

/-- The cells of the row that zzToRes fills: the first k resources are laid; all len * 6 cells are there, none frozen. -/
def Filled (w : World) (B len k : Nat) (rs : List R) : Prop :=
  B < w.heap.size ∧ (∀ j, j < len * 6 → ∃ v, w.cell? ⟨B, j, none⟩ = some v) ∧ (∀ j, w.frozen? ⟨B, j, none⟩ = false) ∧ ∀ i (h : i < rs.length), i < k → Cells w B (i * 6) rs[i]

theorem Filled.start {w1 : World} {B len : Nat} {xs : List Value} (rs : List R) (h : w1.ownsRow B 29 6 (.slice (some ⟨B, 0, none⟩) len len) len xs) : Filled w1 B len 0 rs := by
  refine ⟨?_, fun j hj => ?_, fun j => h.frozenAt j, fun i _ hi => absurd hi (by omega)⟩
  · rcases h.2 with ⟨h', _⟩ | ⟨g', cap', cur, h', _, hg, _⟩
    · simp at h'
    · simp only [Value.slice.injEq, Option.some.injEq, Addr.mk.injEq, and_true, true_and] at h'
      obtain ⟨rfl, rfl⟩ := h'
      exact (Array.getElem?_eq_some_iff.1 hg).1
  · have hx : j < xs.length := by rw [h.1]; omega
    exact ⟨xs[j], by rw [h.cellAt j hj]; simp [hx]⟩

/-- Six stores side by side. -/
def put6 (w : World) (b o : Nat) (r : R) : World :=
  (((((w.setCell ⟨b, o, none⟩ (.string r.g)).setCell ⟨b, o + 1, none⟩ (.string r.v)).setCell ⟨b, o + 2, none⟩ (.string r.p)).setCell ⟨b, o + 3, none⟩ (.string r.s)).setCell ⟨b, o + 4, none⟩ (.string r.k)).setCell ⟨b, o + 5, none⟩ (.bool r.n)

def R.cs (r : R) : List Value := [.string r.g, .string r.v, .string r.p, .string r.s, .string r.k, .bool r.n]

theorem put6_eq (w : World) (b o : Nat) (r : R) : put6 w b o r = w.setCells b o r.cs := rfl

theorem put6_cell_out (w : World) (b o : Nat) (r : R) (x : Addr) (h : x.block = b → x.spot = none → x.off < o ∨ o + 6 ≤ x.off) : (put6 w b o r).cell? x = w.cell? x := by
  rw [put6_eq]; exact World.cell?_setCells_out b r.cs o w x h

theorem put6_frozen (w : World) (b o : Nat) (r : R) (x : Addr) : (put6 w b o r).frozen? x = w.frozen? x := by
  rw [put6_eq]; exact World.frozen?_setCells b r.cs o w x

theorem put6_cells (w : World) (b o : Nat) (r : R) (h : ∀ j, j < 6 → ∃ v, w.cell? ⟨b, o + j, none⟩ = some v) : Cells (put6 w b o r) b o r := by
  have hin := World.cell?_setCells_in b r.cs o w (fun j hj => by obtain ⟨v, hv⟩ := h j hj; simp [hv])
  rw [← put6_eq] at hin
  exact ⟨hin 0 (by simp [R.cs]), hin 1 (by simp [R.cs]), hin 2 (by simp [R.cs]), hin 3 (by simp [R.cs]), hin 4 (by simp [R.cs]), hin 5 (by simp [R.cs])⟩

theorem put6_size (w : World) (b o : Nat) (r : R) : (put6 w b o r).heap.size = w.heap.size := by simp [put6]

theorem put6_below {B : Nat} {w0 w : World} (h : Below B w0 w) {b : Nat} (hb : B ≤ b) (o : Nat) (r : R) : Below B w0 (put6 w b o r) :=
  (((((h.setCell hb _).setCell hb _).setCell hb _).setCell hb _).setCell hb _).setCell hb _

theorem Cells.put6_other {w : World} {b o b' o' : Nat} {r r' : R} (h : Cells w b' o' r') (hne : b' = b → o' + 6 ≤ o ∨ o + 6 ≤ o') : Cells (put6 w b o r) b' o' r' := by
  obtain ⟨c0, c1, c2, c3, c4, c5⟩ := h
  refine ⟨?_, ?_, ?_, ?_, ?_, ?_⟩
  · rw [put6_cell_out _ _ _ _ _ (fun e _ => by have := hne e; simp; omega)]; exact c0
  · rw [put6_cell_out _ _ _ _ _ (fun e _ => by have := hne e; simp; omega)]; exact c1
  · rw [put6_cell_out _ _ _ _ _ (fun e _ => by have := hne e; simp; omega)]; exact c2
  · rw [put6_cell_out _ _ _ _ _ (fun e _ => by have := hne e; simp; omega)]; exact c3
  · rw [put6_cell_out _ _ _ _ _ (fun e _ => by have := hne e; simp; omega)]; exact c4
  · rw [put6_cell_out _ _ _ _ _ (fun e _ => by have := hne e; simp; omega)]; exact c5

theorem Filled.below {w w' : World} {B len k : Nat} {rs : List R} (h : Filled w B len k rs) (hb : Below w.heap.size w w') : Filled w' B len k rs := by
  obtain ⟨h1, h2, h3, h4⟩ := h
  refine ⟨Nat.lt_of_lt_of_le h1 hb.size, fun j hj => ?_, fun j => ?_, fun i hi hk => (h4 i hi hk).below hb h1⟩
  · rw [hb.cell (p := ⟨B, j, none⟩) h1]; exact h2 j hj
  · rw [hb.frozen (p := ⟨B, j, none⟩) h1]; exact h3 j

theorem Filled.step {w : World} {B len k : Nat} {rs : List R} {r : R} (h : Filled w B len k rs) (hr : rs[k]? = some r) (hk : k < len) : Filled (put6 w B (k * 6) r) B len (k + 1) rs := by
  obtain ⟨h1, h2, h3, h4⟩ := h
  refine ⟨by rw [put6_size]; exact h1, fun j hj => ?_, fun j => by rw [put6_frozen]; exact h3 j, fun i hi hk' => ?_⟩
  · by_cases hin : k * 6 ≤ j ∧ j < k * 6 + 6
    · have hc := World.cell?_setCells_in B r.cs (k * 6) w (fun j hj => by obtain ⟨v, hv⟩ := h2 (k * 6 + j) (by simp [R.cs] at hj; omega); simp [hv]) (j - k * 6) (by simp [R.cs]; omega)
      rw [show k * 6 + (j - k * 6) = j from by omega] at hc
      exact ⟨_, hc⟩
    · rw [put6_cell_out _ _ _ _ _ (fun _ _ => by simp; omega)]
      exact h2 j hj
  · by_cases hik : i = k
    · subst hik
      have : rs[i] = r := by simpa [hi] using hr
      rw [this]
      exact put6_cells _ _ _ _ (fun j hj => h2 _ (by omega))
    · exact (h4 i hi (by omega)).put6_other (fun _ => by omega)

theorem Filled.isZ {w : World} {B len : Nat} {rs : List R} (h : Filled w B len len rs) (hl : rs.length = len) : IsZ w (some ⟨B, 0, none⟩) len rs :=
  ⟨hl, fun _ => ⟨B, 0, rfl, h.1, fun i hi => by rw [Nat.zero_add]; exact h.2.2.2 i hi (by omega)⟩⟩

set_option maxHeartbeats 400000 in
theorem toRes_some (x : Addr) (len cap : Nat) (rs : List R) (w : World) (hl : len ≤ 1048576) (hz : IsZ w (some x) len rs) :
    Calls Try.prog 7 #[.slice (some x) len cap] w fun e w' => e = .returned (.slice (some ⟨w.heap.size, 0, none⟩) len len) ∧ Below w.heap.size w w' ∧ IsZ w' (some ⟨w.heap.size, 0, none⟩) len rs := by
  obtain ⟨i0, hi, hz0, hz1, hz2⟩ := info_parts Try.info29
  have q22 : ∀ (w : World) (a : Option Addr) (n c n' c' : Nat), (binOp .eql 22 (.slice a n c) (.slice none n' c')).run Try.prog w = .ok (.bool a.isNone) w := fun w a n c n' c' => Lib.run_eql_slice_nil w _ _ a n c n' c' Try.underlying22
  go_enter Try.func7, Try.ntmps7
  go_wp2_with (first
   | (at_make; refine wpList_make_full _ rfl _ _ 26 rfl w.heap.size 29 i0 _ 6 Try.underlying26 hi hz0 hz1 _ _ _ _ len rfl rfl rfl rfl (by rw [hz2]; omega) (by unfold maxLen; omega) (Nat.le_refl _) ?_; intro w1 hown hgr)
   | go_in)
  clear q22
  go_loopw [4] (fun i wr => ∃ k : Nat, k ≤ len ∧ i = .int .i64 k ∧ Below w.heap.size w wr ∧ Filled wr w.heap.size len k rs) (fun i _ => len - (intOf i).toNat)
  case atStart => 
    exact ⟨0, Nat.zero_le _, rfl, (Below.refl _ _).grown hgr (Nat.le_refl _) (by simp), Filled.start rs hown⟩
  case round =>
    obtain ⟨k, hk, rfl, hb, hfl⟩ := hrel
    by_cases hlt : k < len
    · obtain ⟨hB, hC, hF, hR⟩ := hfl
      obtain ⟨b, off, r, hx, hr, c0, c1, c2, c3, c4, c5⟩ := hz.at hb hlt
      injection hx with hx
      subst hx
      obtain ⟨g, v, p, s, kk, n⟩ := r
      obtain ⟨o0, d0⟩ := hC (k * 6) (by omega)
      obtain ⟨o1, d1⟩ := hC (k * 6 + 1) (by omega)
      obtain ⟨o2, d2⟩ := hC (k * 6 + 2) (by omega)
      obtain ⟨o3, d3⟩ := hC (k * 6 + 3) (by omega)
      obtain ⟨o4, d4⟩ := hC (k * 6 + 4) (by omega)
      obtain ⟨o5, d5⟩ := hC (k * 6 + 5) (by omega)
      go_wp2_with fail
      refine (conv_at g v p s kk n _).mono ?_
      rintro e w2 ⟨rfl, hb2⟩
      have e0 := (hb2.cell (p := ⟨w.heap.size, k * 6, none⟩) hB).trans d0
      have e1 := (hb2.cell (p := ⟨w.heap.size, k * 6 + 1, none⟩) hB).trans d1
      have e2 := (hb2.cell (p := ⟨w.heap.size, k * 6 + 2, none⟩) hB).trans d2
      have e3 := (hb2.cell (p := ⟨w.heap.size, k * 6 + 3, none⟩) hB).trans d3
      have e4 := (hb2.cell (p := ⟨w.heap.size, k * 6 + 4, none⟩) hB).trans d4
      have e5 := (hb2.cell (p := ⟨w.heap.size, k * 6 + 5, none⟩) hB).trans d5
      have f : ∀ j, w2.frozen? ⟨w.heap.size, j, none⟩ = false := fun j => (hb2.frozen (p := ⟨w.heap.size, j, none⟩) hB).trans (hF j)
      have hst := (Filled.below (rs := rs) ⟨hB, hC, hF, hR⟩ hb2).step hr hlt
      have hbe := put6_below (b := w.heap.size) (hb.trans (hb2.mono hb.size)) (Nat.le_refl _) (k * 6) ⟨g, v, p, s, kk, n⟩
      have HST : Hid (Filled (put6 w2 w.heap.size (k * 6) ⟨g, v, p, s, kk, n⟩) w.heap.size len (k + 1) rs) := hst
      have HBE : Hid (Below w.heap.size w (put6 w2 w.heap.size (k * 6) ⟨g, v, p, s, kk, n⟩)) := hbe
      clear hst hbe hC hR hr hF d0 d1 d2 d3 d4 d5 c0 c1 c2 c3 c4 c5
      go_wp2
      go_roundw
      case rel => exact ⟨k + 1, by omega, by go_num, HBE.out, HST.out⟩
      case measure => simp [intOf]; omega
    · obtain rfl : k = len := by omega
      go_wp2
      go_ret
      exact ⟨rfl, hb, hfl.isZ hz.1⟩

/-- The nil slice comes back nil. -/
theorem toRes_none (cap : Nat) (w : World) :
    Calls Try.prog 7 #[.slice none 0 cap] w fun e w' => e = .returned (.slice none 0 0) ∧ w' = w := by
  have q22 : ∀ (w : World) (a : Option Addr) (n c n' c' : Nat), (binOp .eql 22 (.slice a n c) (.slice none n' c')).run Try.prog w = .ok (.bool a.isNone) w := fun w a n c n' c' => Lib.run_eql_slice_nil w _ _ a n c n' c' Try.underlying22
  go_enter Try.func7, Try.ntmps7
  go_wp2
  go_ret
  exact ⟨rfl, rfl⟩

/-- What zzToRes comes to: a slice of the same resources; nothing old has turned. -/
def ToPost (w : World) (len : Nat) (rs : List R) (e : Ending) (w' : World) : Prop := ∃ a' c', e = .returned (.slice a' len c') ∧ IsZ w' a' len rs ∧ Below w.heap.size w w'

theorem toRes_any (a : Option Addr) (len cap : Nat) (rs : List R) (w : World) (hl : len ≤ 1048576) (hz : IsZ w a len rs) :
    Calls Try.prog 7 #[.slice a len cap] w (ToPost w len rs) := by
  cases a with
  | none =>
    have h0 : len = 0 := by
      rcases Nat.eq_zero_or_pos len with h | h
      · exact h
      · obtain ⟨b, off, hx, _⟩ := hz.2 h
        cases hx
    subst h0
    refine (toRes_none cap w).mono fun e w' ⟨he, hw⟩ => ?_
    subst he
    subst hw
    exact ⟨none, 0, rfl, hz, Below.refl _ _⟩
  | some x =>
    refine (toRes_some x len cap rs w hl hz).mono fun e w' ⟨he, hb, hz'⟩ => ?_
    subst he
    exact ⟨_, _, rfl, hz', hb⟩

end Go.Proofs.Qxb6618336a
