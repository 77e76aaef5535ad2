/-
  padded, zeroDigits: new slices, filled byte by byte; alike; the bounds on bytes.
-/
import Derived.Test.Qxb6618418aSame
namespace Go.Proofs.Qxb6618418a
open Go.RowKit
set_option linter.unusedVariables false

theorem Try.info5 : (Try.prog.info? 5).map (fun i => (i.zero, i.size, i.bytes)) = some (some (.int .u8 0), 1, 1) := by kernel_rfl

/-- A new row that is being filled: all cells are there, none frozen; the first k hold T's. -/
def Fill (w : World) (B len k : Nat) (T : List Int) : Prop :=
  B < w.heap.size ∧ (∀ j, j < len → ∃ v, w.cell? ⟨B, j, none⟩ = some v) ∧ (∀ j, w.frozen? ⟨B, j, none⟩ = false) ∧ ∀ i x, i < k → T[i]? = some x → w.cell? ⟨B, i, none⟩ = some (.int .u8 x)

theorem Fill.start {w1 : World} {B len : Nat} {xs : List Value} (T : List Int) (h : w1.ownsRow B 5 1 (.slice (some ⟨B, 0, none⟩) len len) len xs) : Fill w1 B len 0 T := by
  refine ⟨(h.lt B rfl).2, fun j hj => ?_, fun j => h.frozenAt j, fun i x hi => absurd hi (by omega)⟩
  have hx : j < xs.length := by rw [h.1]; omega
  exact ⟨xs[j], by rw [h.cellAt j (by omega)]; simp [hx]⟩

theorem Fill.step {w : World} {B len k : Nat} {T : List Int} {x : Int} (h : Fill w B len k T) (hx : T[k]? = some x) (hk : k < len) : Fill (w.setCell ⟨B, k, none⟩ (.int .u8 x)) B len (k + 1) T := by
  obtain ⟨h1, h2, h3, h4⟩ := h
  obtain ⟨v0, hv0⟩ := h2 k hk
  refine ⟨by simpa using h1, fun j hj => ?_, fun j => by rw [World.frozen?_setCell]; exact h3 j, fun i y hi hy => ?_⟩
  · obtain ⟨v, hv⟩ := h2 j hj
    exact cell?_setCell_some hv
  · by_cases hik : i = k
    · subst hik
      rw [hx] at hy
      cases hy
      exact World.cell?_setCell_same _ _ _ hv0
    · rw [World.cell?_setCell_other _ _ _ _ (fun e => hik (congrArg Addr.off e).symm)]
      exact h4 i y (by omega) hy

theorem Fill.isS {w : World} {B len : Nat} {T : List Int} (h : Fill w B len len T) (hl : T.length = len) (hb : ∀ z ∈ T, 0 ≤ z ∧ z ≤ 255) : IsS w (some ⟨B, 0, none⟩) len T :=
  ⟨hl, fun _ => ⟨B, 0, rfl, h.1, fun i hi => by rw [Nat.zero_add]; exact h.2.2.2 i _ (by omega) (by simp [hi])⟩, hb⟩

theorem Fill.below {w w' : World} {B len k : Nat} {T : List Int} (h : Fill w B len k T) (hb : Below w.heap.size w w') : Fill w' B len k T := by
  obtain ⟨h1, h2, h3, h4⟩ := h
  refine ⟨Nat.lt_of_lt_of_le h1 hb.size, fun j hj => ?_, fun j => ?_, fun i x hi hx => ?_⟩
  · rw [hb.cell (p := ⟨B, j, none⟩) h1]; exact h2 j hj
  · rw [hb.frozen (p := ⟨B, j, none⟩) h1]; exact h3 j
  · rw [hb.cell (p := ⟨B, i, none⟩) h1]; exact h4 i x hi hx

theorem pad_bytes {zs : List Int} (h : ∀ z ∈ zs, 0 ≤ z ∧ z ≤ 255) : ∀ z ∈ (113 :: 113 :: 113 :: 113 :: zs : List Int), 0 ≤ z ∧ z ≤ 255 := by
  intro z hz
  simp at hz
  rcases hz with rfl | hz
  · omega
  · exact h z hz

/-- What a maker of a slice comes to. -/
def MakePost (w : World) (len : Nat) (T : List Int) (e : Ending) (w' : World) : Prop := ∃ B, e = .returned (.slice (some ⟨B, 0, none⟩) len len) ∧ IsS w' (some ⟨B, 0, none⟩) len T ∧ Below w.heap.size w w'

set_option maxRecDepth 100000 in
set_option maxHeartbeats 1000000 in
theorem padded_any (a : Option Addr) (la ca : Nat) (zs : List Int) (w : World) (hla : la ≤ 1048576) (hz : IsS w a la zs) :
    Calls Try.prog 7 #[.slice a la ca] w (MakePost w (la + 4) (113 :: 113 :: 113 :: 113 :: zs)) := by
  obtain ⟨i0, hi, hi0, hi1, hi2⟩ := info_parts Try.info5
  go_enter Try.func7, Try.ntmps7
  go_wp2_with (at_make; refine wpList_make_full _ rfl _ _ 22 rfl w.heap.size 5 i0 _ 1 Try.underlying22 hi hi0 hi1 _ _ _ _ (la + 4) rfl rfl (by omega) (by omega) (by rw [hi2]; omega) (by unfold maxLen; omega) (Nat.le_refl _) ?_; intro w1 hown hgr)
  have F0 := Fill.start (113 :: 113 :: 113 :: 113 :: zs) hown
  have b1 : Below w.heap.size w w1 := (Below.refl _ _).grown hgr (Nat.le_refl _) (by simp)
  clear hown hgr hi hi0 hi1 hi2
  go_loopw [4] (fun i wr => ∃ k : Nat, k ≤ 4 ∧ i = .int .i64 k ∧ Below w.heap.size w wr ∧ Hid (Fill wr w.heap.size (la + 4) k (113 :: 113 :: 113 :: 113 :: zs))) (fun i _ => 4 - (intOf i).toNat)
  case atStart => exact ⟨0, by omega, rfl, b1, F0⟩
  case round =>
    obtain ⟨k, hk, rfl, hb, HF⟩ := hrel
    clear b1 F0
    by_cases hlt : k < 4
    · obtain ⟨v0, d0⟩ := HF.out.2.1 k (by omega)
      have f0 := HF.out.2.2.1 k
      have hT : (113 :: 113 :: 113 :: 113 :: zs : List Int)[k]? = some 113 := by
        match k, hlt with
        | 0, _ => rfl
        | 1, _ => rfl
        | 2, _ => rfl
        | 3, _ => rfl
      have HS : Hid (Fill (wr.setCell ⟨w.heap.size, k, none⟩ (.int .u8 113)) w.heap.size (la + 4) (k + 1) (113 :: 113 :: 113 :: 113 :: zs)) := HF.out.step hT (by omega)
      clear hT
      have l4 : (k : Int) < (la : Int) + 4 := by omega
      go_wp2
      go_roundw
      case rel => exact ⟨k + 1, by omega, by go_num, hb.setCell (Nat.le_refl _) _, HS⟩
      case measure => simp [intOf]; omega
    · obtain rfl : k = 4 := by omega
      go_wp2
      go_loopw [5] (fun i wr => ∃ j : Nat, j ≤ la ∧ i = .int .i64 j ∧ Below w.heap.size w wr ∧ Hid (Fill wr w.heap.size (la + 4) (j + 4) (113 :: 113 :: 113 :: 113 :: zs))) (fun i _ => la - (intOf i).toNat)
      case atStart => exact ⟨0, by omega, rfl, hb, HF⟩
      case round =>
        clear hb HF
        obtain ⟨j, hj, rfl, hb, HF⟩ := hrel
        by_cases hlt' : j < la
        · obtain ⟨b, off, x, rfl, hbl, hx, cx, x0, x1⟩ := hz.at hlt'
          obtain ⟨v0, d0⟩ := HF.out.2.1 (j + 4) (by omega)
          have f0 := HF.out.2.2.1 (j + 4)
          have cx' := (hb.cell (p := ⟨b, off + j, none⟩) hbl).trans cx
          have hT : (113 :: 113 :: 113 :: 113 :: zs : List Int)[j + 4]? = some x := hx
          have HS : Hid (Fill (wr.setCell ⟨w.heap.size, j + 4, none⟩ (.int .u8 x)) w.heap.size (la + 4) (j + 4 + 1) (113 :: 113 :: 113 :: 113 :: zs)) := HF.out.step hT (by omega)
          clear hT hx cx
          have l4 : (j : Int) + 4 < (la : Int) + 4 := by omega
          go_wp2
          go_roundw
          case rel => exact ⟨j + 1, by omega, by go_num, hb.setCell (Nat.le_refl _) _, by rw [show j + 1 + 4 = j + 4 + 1 from by omega]; exact HS⟩
          case measure => simp [intOf]; omega
        · obtain rfl : j = la := by omega
          go_wp2
          go_ret
          exact ⟨_, rfl, HF.out.isS (by simp [hz.1]) (pad_bytes hz.2.2), hb⟩

/-- Every digit made '0'. -/
def zd (x : Int) : Int := if digB x then 48 else x

theorem zd_bytes {zs : List Int} (h : ∀ z ∈ zs, 0 ≤ z ∧ z ≤ 255) : ∀ z ∈ zs.map zd, 0 ≤ z ∧ z ≤ 255 := by
  intro z hz
  obtain ⟨y, hy, rfl⟩ := List.mem_map.1 hz
  have := h y hy
  unfold zd
  split <;> omega

theorem isDig_is (x : Int) (v : Bool) (w : World) (h : digB x = v) : Calls Try.prog 12 #[.int .u8 x] w fun e w' => e = .returned (.bool v) ∧ w' = w := by
  rw [← h]; exact isDig_any x w

set_option maxRecDepth 100000 in
set_option maxHeartbeats 1000000 in
theorem zeroD_any (a : Option Addr) (la ca : Nat) (zs : List Int) (w : World) (hla : la ≤ 1048576) (hz : IsS w a la zs) :
    Calls Try.prog 10 #[.slice a la ca] w (MakePost w la (zs.map zd)) := by
  obtain ⟨i0, hi, hi0, hi1, hi2⟩ := info_parts Try.info5
  go_enter Try.func10, Try.ntmps10
  go_wp2_with (at_make; refine wpList_make_full _ rfl _ _ 22 rfl w.heap.size 5 i0 _ 1 Try.underlying22 hi hi0 hi1 _ _ _ _ la rfl rfl rfl rfl (by rw [hi2]; omega) (by unfold maxLen; omega) (Nat.le_refl _) ?_; intro w1 hown hgr)
  have F0 := Fill.start (zs.map zd) hown
  have b1 : Below w.heap.size w w1 := (Below.refl _ _).grown hgr (Nat.le_refl _) (by simp)
  clear hown hgr hi hi0 hi1 hi2
  go_loopw [4] (fun i wr => ∃ k : Nat, k ≤ la ∧ i = .int .i64 k ∧ Below w.heap.size w wr ∧ Hid (Fill wr w.heap.size la k (zs.map zd))) (fun i _ => la - (intOf i).toNat)
  case atStart => exact ⟨0, by omega, rfl, b1, F0⟩
  case round =>
    obtain ⟨k, hk, rfl, hb, HF⟩ := hrel
    clear b1 F0
    by_cases hlt : k < la
    · obtain ⟨b, off, x, rfl, hbl, hx, cx, x0, x1⟩ := hz.at hlt
      obtain ⟨v0, d0⟩ := HF.out.2.1 k (by omega)
      have f0 := HF.out.2.2.1 k
      have cx' := (hb.cell (p := ⟨b, off + k, none⟩) hbl).trans cx
      have hT : (zs.map zd)[k]? = some (zd x) := by rw [List.getElem?_map, hx]; rfl
      cases hd : digB x
      · have ez : zd x = x := by simp [zd, hd]
        rw [ez] at hT
        have HS : Hid (Fill (wr.setCell ⟨w.heap.size, k, none⟩ (.int .u8 x)) w.heap.size la (k + 1) (zs.map zd)) := HF.out.step hT (by omega)
        clear hT hx cx ez
        go_wp2_with fail
        refine (isDig_is x false _ hd).mono ?_
        rintro e w2 ⟨rfl, hw⟩
        subst w2
        go_wp2
        go_roundw
        case rel => exact ⟨k + 1, by omega, by go_num, hb.setCell (Nat.le_refl _) _, HS⟩
        case measure => simp [intOf]; omega
      · have ez : zd x = 48 := by simp [zd, hd]
        rw [ez] at hT
        have HS : Hid (Fill (wr.setCell ⟨w.heap.size, k, none⟩ (.int .u8 48)) w.heap.size la (k + 1) (zs.map zd)) := HF.out.step hT (by omega)
        clear hT hx cx ez
        go_wp2_with fail
        refine (isDig_is x true _ hd).mono ?_
        rintro e w2 ⟨rfl, hw⟩
        subst w2
        go_wp2
        go_roundw
        case rel => exact ⟨k + 1, by omega, by go_num, hb.setCell (Nat.le_refl _) _, HS⟩
        case measure => simp [intOf]; omega
    · obtain rfl : k = la := by omega
      go_wp2
      go_ret
      exact ⟨_, rfl, HF.out.isS (by simp [hz.1]) (zd_bytes hz.2.2), hb⟩

/-- What the bounds on bytes come to. -/
def BytesPost (w : World) (e : Ending) (w' : World) : Prop := ∃ b : Bool, e = .returned (.bool b) ∧ w' = w
theorem BytesPost.mk {w : World} (b : Bool) : BytesPost w (.returned (.bool b)) w := ⟨b, rfl, rfl⟩

set_option maxHeartbeats 400000 in
theorem bytes5 (a : Option Addr) (la ca : Nat) (b : Option Addr) (lb cb : Nat) (w : World) :
    Calls Try.prog 5 #[.slice a la ca, .slice b lb cb] w (BytesPost w) := by
  by_cases h1 : (1048576 : Int) < la
  · go_enter Try.func5, Try.ntmps5
    go_wp2
    go_ret
    exact BytesPost.mk _
  by_cases h2 : (1048576 : Int) < lb
  all_goals
    go_enter Try.func5, Try.ntmps5
    go_wp2
    all_goals
      go_ret
      exact BytesPost.mk _

set_option maxHeartbeats 400000 in
theorem bytes9 (a : Option Addr) (la ca : Nat) (b : Option Addr) (lb cb : Nat) (w : World) :
    Calls Try.prog 9 #[.slice a la ca, .slice b lb cb] w (BytesPost w) := by
  by_cases h1 : (1048576 : Int) < la
  · go_enter Try.func9, Try.ntmps9
    go_wp2
    go_ret
    exact BytesPost.mk _
  by_cases h2 : (1048576 : Int) < lb
  all_goals
    go_enter Try.func9, Try.ntmps9
    go_wp2
    all_goals
      go_ret
      exact BytesPost.mk _

end Go.Proofs.Qxb6618418a
