/-
  MarshalJSON: the text between two quotes, in new memory.
-/
import Derived.Test.Qxb6618375aFmt
namespace Go.Proofs.Qxb6618375a
open Go.RowKit
set_option linter.unusedVariables false

theorem Try.info5 : (Try.prog.info? 5).map (fun i => (i.zero, i.size, i.bytes)) = some (some (.int .u8 0), 1, 1) := by kernel_rfl

/-- The quoted text, off the text read from its end. -/
def quoted (rv : List Int) : List Int := 34 :: rv.reverse ++ [34]
theorem quoted_len (rv : List Int) : (quoted rv).length = rv.length + 2 := by simp [quoted]

/-- A row of bytes in memory, from a block's head on. -/
def IsB (w : World) (G : Nat) (T : List Int) : Prop := G < w.heap.size ∧ ∀ i (h : i < T.length), w.cell? ⟨G, i, none⟩ = some (.int .u8 T[i])

def MarPost (w : World) (T : List Int) (n : Nat) (e : Ending) (w' : World) : Prop :=
  ∃ G, e = .returned (.tuple #[.slice (some ⟨G, 0, none⟩) n n, .nilIface]) ∧ IsB w' G T ∧ Below w.heap.size w w'

theorem plain_add (b o j : Nat) : (⟨b, o, none⟩ : Addr).add j = ⟨b, o + j, none⟩ := by
  cases j with
  | zero => simp [Addr.add]
  | succ n => simp [Addr.add]

theorem grown_below {w w' : World} {row : Option Nat} {C : Nat} (h : w.grownBy w' row) (hC : C ≤ w.heap.size) (hr : ∀ k, row = some k → C ≤ k) : Below C w w' := (Below.refl _ _).grown h hC hr

theorem buf_new (w : World) (c : Array Value) (t : TypeId) (B : Nat) (hB : B = w.heap.size) (hc : c.size = 22) : Buf (w.alloc (.cells c t)) B [] := by
  subst hB
  refine ⟨by simp, fun j hj => ?_, fun j => by simp, fun i v hv => by simp at hv⟩
  exact ⟨c[j]'(by omega), by simp [hc, hj]⟩

/-- The text's cells, where the slice that format hands back looks for them. -/
theorem buf_cells {w : World} {B : Nat} {rv : List Int} (h : Buf w B rv) (hl : rv.length ≤ 22) : ∀ j u, (rv.reverse.map (Value.int .u8))[j]? = some u → w.cell? ((⟨B, 22 - rv.length, none⟩ : Addr).add j) = some u := by
  intro j u hu
  rw [List.getElem?_map] at hu
  obtain ⟨v, hv, rfl⟩ := Option.map_eq_some_iff.1 hu
  have hj : j < rv.length := by
    have := (List.getElem?_eq_some_iff.1 hv).1
    simpa using this
  rw [List.getElem?_reverse hj] at hv
  have := (h.2.2.2 _ v hv).2
  rw [plain_add]
  rw [show 22 - rv.length + j = 21 - (rv.length - 1 - j) from by omega]
  exact this

theorem ints_one (l : List Int) : ∀ u ∈ l.map (Value.int .u8), u.oneCell' = true := by
  intro u hu
  obtain ⟨x, _, rfl⟩ := List.mem_map.1 hu
  rfl

theorem owns_isB {w : World} {base G n cap : Nat} {T : List Int} (h : w.ownsRow base 5 1 (.slice (some ⟨G, 0, none⟩) n cap) n (T.map (Value.int .u8))) (hn : T.length = n) : IsB w G T := by
  refine ⟨(h.lt G rfl).2, fun i hi => ?_⟩
  rw [h.cellAt i (by omega)]
  simp [hi]

theorem mar_end {G a b c : Nat} (h : a = b) : Ending.returned (.tuple #[.slice (some ⟨G, 0, none⟩) a c, .nilIface]) = .returned (.tuple #[.slice (some ⟨G, 0, none⟩) b c, .nilIface]) := by rw [h]

set_option maxRecDepth 100000 in
set_option maxHeartbeats 1000000 in
theorem marshal_any (coef s nd : Nat) (neg : Bool) (rv : List Int) (w : World) (hc : coef ≤ 9999999999999999999) (hs : s ≤ 19) (Hnd : Hid (IsNd (coef / 10 ^ s) nd)) (Hrv : Hid (rev coef s nd neg = rv)) (hl : rv.length ≤ 22) :
    Calls Try.prog 6 #[.agg #[.int .u64 coef, .int .u8 s, .bool neg]] w (MarPost w (quoted rv) (rv.length + 2)) := by
  obtain ⟨i0, hi, hi0, hi1, hi2⟩ := info_parts Try.info5
  go_enter Try.func6, Try.ntmps6
  go_wp2_with fail
  have hf := format_any (w.heap.size + 1) coef s nd neg _ (buf_new (w.alloc (.cells #[.int .u64 coef, .int .u8 s, .bool neg] 24)) #[.int .u8 0, .int .u8 0, .int .u8 0, .int .u8 0, .int .u8 0, .int .u8 0, .int .u8 0, .int .u8 0, .int .u8 0, .int .u8 0, .int .u8 0, .int .u8 0, .int .u8 0, .int .u8 0, .int .u8 0, .int .u8 0, .int .u8 0, .int .u8 0, .int .u8 0, .int .u8 0, .int .u8 0, .int .u8 0] 37 (w.heap.size + 1) (by simp) rfl) hc hs Hnd
  rw [Hrv.out] at hf
  refine hf.mono ?_
  clear hf
  rintro e w1 ⟨rfl, hbuf, hbel⟩
  have hb1 : Below w.heap.size w w1 := by
    have h1 : Below w.heap.size w ((w.alloc (.cells #[.int .u64 coef, .int .u8 s, .bool neg] 24)).alloc (.cells #[.int .u8 0, .int .u8 0, .int .u8 0, .int .u8 0, .int .u8 0, .int .u8 0, .int .u8 0, .int .u8 0, .int .u8 0, .int .u8 0, .int .u8 0, .int .u8 0, .int .u8 0, .int .u8 0, .int .u8 0, .int .u8 0, .int .u8 0, .int .u8 0, .int .u8 0, .int .u8 0, .int .u8 0, .int .u8 0] 37)) := ((Below.refl _ _).alloc (Nat.le_refl _) _).alloc (by simp) _
    exact h1.trans (hbel.mono (by omega))
  have hB1 := hbuf.1
  have HB : Hid (Buf w1 (w.heap.size + 1) rv) := hbuf
  clear hbuf hbel
  generalize w.heap.size + 1 = B at *
  go_wp2_with (first
    | (at_make; refine wpList_make_own _ rfl _ _ 26 rfl w1.heap.size 5 i0 _ 1 Try.underlying26 hi hi0 hi1 _ _ _ (rv.length + 2) rfl rfl (by omega) (by rw [hi2]; omega) (by unfold maxLen; omega) (Nat.le_refl _) ?_; intro w2 hown hgr; have hb2 := grown_below hgr (Nat.le_refl _) (by simp))
    | (at_builtin; refine wpList_append_fits _ rfl (.tmp 13) (.tmp 14) 26 rfl w1.heap.size 5 i0 1 Try.underlying26 hi hi1 w1.heap.size 0 (rv.length + 2) _ rfl (hown.alloc _) ⟨w2.heap.size, 0, none⟩ 1 1 [.int .u8 34] rfl rfl (cell_one_new _ _ _) (ints_one [34]) (by omega) ?_; intro w3 hown3 hgr3; have hb3 := hb2.trans (((Below.refl _ _).alloc hb2.size _).trans (grown_below hgr3 (by simp; have := hb2.size; omega) (by rintro _ ⟨rfl⟩; exact Nat.le_refl _))); have HB3 : Hid (Buf w3 B rv) := HB.out.below hb3 hB1; simp only [Nat.zero_add, List.nil_append] at hown3)
    | (at_builtin; refine wpList_append_fits _ rfl (.tmp 16) (.tmp 17) 26 rfl w1.heap.size 5 i0 1 Try.underlying26 hi hi1 w1.heap.size 1 (rv.length + 2) _ rfl hown3 ⟨B, 22 - rv.length, none⟩ rv.length rv.length (rv.reverse.map (Value.int .u8)) rfl (by simp) (buf_cells HB3.out hl) (ints_one _) (by omega) ?_; intro w4 hown4 hgr4; have hb4 := hb3.trans (grown_below hgr4 hb3.size (by rintro _ ⟨rfl⟩; exact Nat.le_refl _)))
    | (at_builtin; refine wpList_append_fits _ rfl (.tmp 19) (.tmp 20) 26 rfl w1.heap.size 5 i0 1 Try.underlying26 hi hi1 w1.heap.size (1 + rv.length) (rv.length + 2) _ rfl (hown4.alloc _) ⟨w4.heap.size, 0, none⟩ 1 1 [.int .u8 34] rfl rfl (cell_one_new _ _ _) (ints_one [34]) (by omega) ?_; intro w5 hown5 hgr5; have hb5 := hb4.trans (((Below.refl _ _).alloc hb4.size _).trans (grown_below hgr5 (by simp; have := hb4.size; omega) (by rintro _ ⟨rfl⟩; exact Nat.le_refl _)))))
  go_ret2
  rw [show 1 + rv.length + 1 = rv.length + 2 from by omega] at hown5
  have e : ([Value.int .u8 34] ++ List.map (Value.int .u8) rv.reverse ++ [Value.int .u8 34]) = (quoted rv).map (Value.int .u8) := by simp [quoted]
  rw [e] at hown5
  exact ⟨w1.heap.size, mar_end (by omega), owns_isB hown5 (quoted_len rv), hb1.trans (hb5.mono hb1.size)⟩
end Go.Proofs.Qxb6618375a
