/-
  THE SMALL WALKS: zzConv, zzNameIs, zzAddBytes, the two bounds on bytes.
-/
import Derived.Test.Qxb6618336aBase
namespace Go.Proofs.Qxb6618336a
open Go.RowKit
set_option linter.unusedVariables false

set_option maxHeartbeats 400000 in
theorem conv_any (r : R) (w : World) :
    Calls Try.prog 10 #[r.val] w fun e w' => e = .returned r.val ∧ Below w.heap.size w w' := by
  obtain ⟨g, v, p, s, k, n⟩ := r
  unfold R.val
  go_enter Try.func10, Try.ntmps10
  go_wp2
  refine bodyPost_ret (v := .agg #[.string g, .string v, .string p, .string s, .string k, .bool n]) (by simp [results, Try.results10, go_sem]) rfl ⟨rfl, ?_⟩
  exact ((Below.refl _ _).alloc (Nat.le_refl _) _).alloc (by simp) _

set_option maxHeartbeats 400000 in
theorem nameIs_any (r : R) (nm : ByteArray) (w : World) :
    Calls Try.prog 9 #[r.val, .string nm] w fun e w' => e = .returned (.bool (nameIs r nm)) ∧ Below w.heap.size w w' := by
  obtain ⟨g, v, p, s, k, n⟩ := r
  unfold R.val nameIs
  go_enter Try.func9, Try.ntmps9
  go_wp2
  · go_ret
    have h : p.toList = nm.toList := by assumption
    exact ⟨by simp [h], (Below.refl _ _).alloc (Nat.le_refl _) _⟩
  · go_ret
    exact ⟨rfl, (Below.refl _ _).alloc (Nat.le_refl _) _⟩

/-- What zzAddBytes comes to: some total and some answer; where the answer is yes the total is small. -/
def AddPost (w : World) (e : Ending) (w' : World) : Prop := ∃ t b, e = .returned (.tuple #[.int .i64 t, .bool b]) ∧ 0 ≤ t ∧ (b = true → t ≤ 1048576) ∧ Below w.heap.size w w'
theorem AddPost.no {w w' : World} {t : Int} (h : 0 ≤ t) (hb : Below w.heap.size w w') : AddPost w (.returned (.tuple #[.int .i64 t, .bool false])) w' := ⟨t, false, rfl, h, by simp, hb⟩

set_option maxHeartbeats 1000000 in
theorem add_any (total : Int) (a : Option Addr) (len cap : Nat) (rs : List R) (w : World) (h0 : 0 ≤ total) (h1 : total ≤ 2097152) (hl : len ≤ 1048576) (hz : IsZ w a len rs) :
    Calls Try.prog 6 #[.int .i64 total, .slice a len cap] w (AddPost w) := by
  go_enter Try.func6, Try.ntmps6
  go_wp2
  · go_ret2
    exact AddPost.no h0 (Below.refl _ _)
  go_loopw [0, 6] (fun t i wr => ∃ k : Nat, ∃ q : Int, k ≤ len ∧ i = .int .i64 k ∧ t = .int .i64 q ∧ 0 ≤ q ∧ q ≤ 1048576 ∧ Below w.heap.size w wr) (fun _ i _ => len - (intOf i).toNat)
  case atStart => exact ⟨0, total, Nat.zero_le _, rfl, rfl, h0, by assumption, Below.refl _ _⟩
  case round =>
    obtain ⟨k, q, hk, rfl, rfl, hq0, hq1, hb⟩ := hrel
    have hsz := hb.size
    by_cases hlt : k < len
    · obtain ⟨b, off, r, rfl, hr, c0, c1, c2, c3, c4, c5⟩ := hz.at hb hlt
      clear hr
      obtain ⟨g, v, p, s, kk, n⟩ := r
      go_wp2
      case roundEnd =>
        go_roundw
        case rel => exact ⟨k + 1, _, by omega, by go_num, rfl, by omega, by assumption, hb.alloc (by omega) _⟩
        case measure => simp [intOf]; omega
      all_goals
        go_ret2
        exact AddPost.no (by omega) (hb.alloc (by omega) _)
    · go_wp2
      go_ret2
      exact ⟨_, _, rfl, hq0, fun _ => hq1, hb⟩

/-- What the bounds on bytes come to: some answer; where it is yes the length is small. -/
def BytesPost (n : Nat) (w : World) (e : Ending) (w' : World) : Prop := ∃ b : Bool, e = .returned (.bool b) ∧ (b = true → n ≤ 1048576) ∧ w' = w
theorem BytesPost.no {n : Nat} {w : World} : BytesPost n w (.returned (.bool false)) w := ⟨false, rfl, by simp, rfl⟩
theorem BytesPost.yes {n : Nat} {w : World} (h : n ≤ 1048576) : BytesPost n w (.returned (.bool true)) w := ⟨true, rfl, fun _ => h, rfl⟩

theorem IsZ.here {w : World} {a : Option Addr} {len : Nat} {rs : List R} {k : Nat} (h : IsZ w a len rs) (hk : k < len) :
    ∃ b off r, a = some ⟨b, off, none⟩ ∧ rs[k]? = some r ∧ Cells w b (off + k * 6) r := h.at (Below.refl _ _) hk

set_option maxRecDepth 100000 in
set_option maxHeartbeats 2000000 in
theorem bytes_spec (a : Option Addr) (len cap : Nat) (rs : List R) (gr re : ByteArray) (w : World) (hz : IsZ w a len rs) :
    Calls Try.prog 5 #[.slice a len cap, .string gr, .string re] w (BytesPost len w) := by
  go_enter Try.func5, Try.ntmps5
  go_wp2
  · go_ret
    exact BytesPost.no
  have hl : len ≤ 1048576 := by omega
  go_loop [7, 8] (fun t i => ∃ k : Nat, ∃ q : Int, k ≤ len ∧ i = .int .i64 k ∧ t = .int .i64 q ∧ 0 ≤ q ∧ q ≤ 1048576) (fun _ i => len - (intOf i).toNat)
  case atStart => exact ⟨0, len, Nat.zero_le _, rfl, by simp, by omega, by omega⟩
  case round =>
    obtain ⟨k, q, hk, rfl, rfl, hq0, hq1⟩ := hrel
    by_cases hlt : k < len
    · obtain ⟨b, off, r, rfl, hr, c0, c1, c2, c3, c4, c5⟩ := hz.here hlt
      clear hr
      obtain ⟨g, v, p, s, kk, n⟩ := r
      go_wp2
      case roundEnd =>
        go_round
        case rel => exact ⟨k + 1, _, by omega, by go_num, rfl, by omega, by assumption⟩
        case measure => simp [intOf]; omega
      all_goals
        go_ret
        exact BytesPost.no
    · go_wp2
      all_goals
        go_ret
        first | exact BytesPost.no | exact BytesPost.yes hl

set_option maxRecDepth 100000 in
set_option maxHeartbeats 4000000 in
theorem bytes_split (a : Option Addr) (len cap : Nat) (rs : List R) (a' : Option Addr) (len' cap' : Nat) (rs' : List R) (gr re : ByteArray) (w : World) (hz : IsZ w a len rs) (hz' : IsZ w a' len' rs') :
    Calls Try.prog 11 #[.slice a len cap, .slice a' len' cap', .string gr, .string re] w (BytesPost (len + len') w) := by
  go_enter Try.func11, Try.ntmps11
  go_wp2
  · go_ret
    exact BytesPost.no
  have hl : len ≤ 1048576 := by omega
  go_loop [9, 10] (fun t i => ∃ k : Nat, ∃ q : Int, k ≤ len ∧ i = .int .i64 k ∧ t = .int .i64 q ∧ (len : Int) ≤ q ∧ q ≤ 1048576) (fun _ i => len - (intOf i).toNat)
  case atStart => exact ⟨0, len, Nat.zero_le _, rfl, by simp, by omega, by omega⟩
  case round =>
    obtain ⟨k, q, hk, rfl, rfl, hq0, hq1⟩ := hrel
    by_cases hlt : k < len
    · obtain ⟨b, off, r, rfl, hr, c0, c1, c2, c3, c4, c5⟩ := hz.here hlt
      clear hr hz'
      obtain ⟨g, v, p, s, kk, n⟩ := r
      go_wp2
      case roundEnd =>
        go_round
        case rel => exact ⟨k + 1, _, by omega, by go_num, rfl, by omega, by assumption⟩
        case measure => simp [intOf]; omega
      all_goals
        go_ret
        exact BytesPost.no
    · go_wp2
      · go_ret
        exact BytesPost.no
      · go_ret
        exact BytesPost.no
      have hl' : len' ≤ 1048576 := by omega
      have hs : len + len' ≤ 1048576 := by omega
      go_loop [9, 11] (fun t i => ∃ k : Nat, ∃ q : Int, k ≤ len' ∧ i = .int .i64 k ∧ t = .int .i64 q ∧ 0 ≤ q ∧ q ≤ 1048576) (fun _ i => len' - (intOf i).toNat)
      case atStart => exact ⟨0, _, Nat.zero_le _, rfl, rfl, by omega, by omega⟩
      case round =>
        obtain ⟨k', q', hk', rfl, rfl, hq0', hq1'⟩ := hrel
        by_cases hlt' : k' < len'
        · obtain ⟨b, off, r, rfl, hr, c0, c1, c2, c3, c4, c5⟩ := hz'.here hlt'
          clear hr hz
          obtain ⟨g, v, p, s, kk, n⟩ := r
          go_wp2
          case roundEnd =>
            go_round
            case rel => exact ⟨k' + 1, _, by omega, by go_num, rfl, by omega, by assumption⟩
            case measure => simp [intOf]; omega
          all_goals
            go_ret
            exact BytesPost.no
        · go_wp2
          all_goals
            go_ret
            first | exact BytesPost.no | exact BytesPost.yes hs

end Go.Proofs.Qxb6618336a
