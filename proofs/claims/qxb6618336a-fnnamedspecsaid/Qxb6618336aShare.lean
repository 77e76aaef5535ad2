/-
  WHAT BOTH LAWS SHARE: Named's contract with the answer written out; boxes; what a law comes to.
-/
import Derived.Test.Qxb6618336aPlain
namespace Go.Proofs.Qxb6618336a
open Go.RowKit
set_option linter.unusedVariables false

theorem named_at (g nm : ByteArray) (a : Option Addr) (len cap : Nat) (rs : List R) (w : World) (hl : len ≤ 1048576) (hz : IsZ w a len rs) (qg qv qp qs qk : ByteArray) (qn ok : Bool)
    (hq : Hid (namedF g nm zeroR false rs = (⟨qg, qv, qp, qs, qk, qn⟩, ok))) :
    Calls Try.prog 8 #[.slice a len cap, .string g, .string nm] w fun e w' => e = .returned (.tuple #[.agg #[.string qg, .string qv, .string qp, .string qs, .string qk, .bool qn], .bool ok]) ∧ Below w.heap.size w w' := by
  have h := named_any g nm a len cap rs w hl hz
  rw [hq.out] at h
  exact h

theorem Box.below {w w' : World} {b : Nat} {r : R} (h : Box w b r) (hb : Below w.heap.size w w') : Box w' b r :=
  ⟨Nat.lt_of_lt_of_le h.1 hb.size, h.2.1.below hb h.1, fun j => (hb.frozen (p := ⟨b, j, none⟩) h.1).trans (h.2.2 j)⟩

/-- Two blocks more. -/
theorem two_more {w0 w : World} (h : Below w0.heap.size w0 w) (o : Obj) : Below w0.heap.size w0 (w.alloc o) := h.alloc h.size o

theorem hid {p : Prop} (h : p) : Hid p := h
theorem named_ex (g nm : ByteArray) (rs : List R) : ∃ qg qv qp qs qk qn ok, Hid (namedF g nm zeroR false rs = (⟨qg, qv, qp, qs, qk, qn⟩, ok)) := ⟨_, _, _, _, _, _, _, rfl⟩

/-- What a law comes to: true, and nothing that was there has turned. -/
def LawPost (w : World) (e : Ending) (w' : World) : Prop := e = .returned (.bool true) ∧ Below w.heap.size w w'

end Go.Proofs.Qxb6618336a
