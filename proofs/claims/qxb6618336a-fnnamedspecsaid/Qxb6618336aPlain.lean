/-
  THE PLAIN LAWS on 'namedF': no memory in sight.
-/
import Derived.Test.Qxb6618336aNamed
namespace Go.Proofs.Qxb6618336a

/-- The first that has the group and answers to the name. -/
def hit (g nm : ByteArray) (rs : List R) : Option R := rs.find? fun r => nameIs r nm && r.g.toList == g.toList
/-- The first that answers to the name. -/
def anyOf (nm : ByteArray) (rs : List R) : Option R := rs.find? fun r => nameIs r nm

theorem namedF_eq (g nm : ByteArray) (rs : List R) : ∀ (first : R) (found : Bool), namedF g nm first found rs =
    match hit g nm rs with
    | some r => (r, true)
    | none => if g.toList.isEmpty && !found then (match anyOf nm rs with | some r => (r, true) | none => (first, found)) else (first, found) := by
  induction rs with
  | nil => intro first found; simp [namedF, hit, anyOf]
  | cons r rs ih =>
    intro first found
    unfold namedF
    simp only [hit, anyOf, List.find?_cons] at ih ⊢
    cases hn : nameIs r nm
    · simp only [Bool.false_and, Bool.false_eq_true, if_false]
      exact ih first found
    · cases hg : (r.g.toList == g.toList)
      · simp only [Bool.true_and, if_true, Bool.false_eq_true, if_false]
        cases hc : (g.toList.isEmpty && !found)
        · simp only [Bool.false_eq_true, if_false]
          rw [ih first found, hc]
          simp
        · simp only [if_true]
          rw [ih r true]
          simp
      · simp

theorem hit_some {g nm : ByteArray} {rs : List R} {r : R} (h : hit g nm rs = some r) : nameIs r nm = true ∧ (r.g.toList == g.toList) = true := by
  have := List.find?_some h
  simpa only [Bool.and_eq_true] using this

theorem hit_none {g nm : ByteArray} {rs : List R} {r : R} (h : hit g nm rs = none) (hr : anyOf nm rs = some r) : (r.g.toList == g.toList) = false := by
  have h1 := List.find?_some hr
  have h2 := List.mem_of_find?_eq_some hr
  have h3 := List.find?_eq_none.1 h r h2
  have h1' : nameIs r nm = true := h1
  rw [h1'] at h3
  simpa using h3

/-- WHERE Named FINDS. -/
theorem named_hit {g nm : ByteArray} {rs : List R} {r : R} (h : hit g nm rs = some r) : namedF g nm zeroR false rs = (r, true) := by
  rw [namedF_eq, h]

theorem named_cases (g nm : ByteArray) (rs : List R) :
    (∃ r, hit g nm rs = some r ∧ namedF g nm zeroR false rs = (r, true) ∧ (r.g.toList == g.toList) = true) ∨
    (hit g nm rs = none ∧ g.toList.isEmpty = true ∧ ∃ r, anyOf nm rs = some r ∧ namedF g nm zeroR false rs = (r, true) ∧ (r.g.toList == g.toList) = false) ∨
    (hit g nm rs = none ∧ (g.toList.isEmpty = false ∨ anyOf nm rs = none) ∧ namedF g nm zeroR false rs = (zeroR, false)) := by
  cases hh : hit g nm rs with
  | some r => exact .inl ⟨r, rfl, named_hit hh, (hit_some hh).2⟩
  | none =>
    right
    cases hg : g.toList.isEmpty
    · right
      exact ⟨rfl, .inl rfl, by rw [namedF_eq, hh, hg]; rfl⟩
    · cases ha : anyOf nm rs with
      | some r => exact .inl ⟨rfl, rfl, r, rfl, by rw [namedF_eq, hh, hg, ha]; rfl, hit_none hh ha⟩
      | none => exact .inr ⟨rfl, .inr rfl, by rw [namedF_eq, hh, hg, ha]; rfl⟩

/-- THE SPLIT: seven ways. -/
theorem split_law (g nm : ByteArray) (A B : List R) {ra rb rab : R} {oka okb okab : Bool} (ha : namedF g nm zeroR false A = (ra, oka)) (hb : namedF g nm zeroR false B = (rb, okb)) (hab : namedF g nm zeroR false (A ++ B) = (rab, okab)) :
    (oka = true ∧ (ra.g.toList == g.toList) = true ∧ rab = ra ∧ okab = true) ∨
    (oka = true ∧ (ra.g.toList == g.toList) = false ∧ okb = true ∧ (rb.g.toList == g.toList) = true ∧ rab = rb ∧ okab = true) ∨
    (oka = false ∧ okb = true ∧ (rb.g.toList == g.toList) = true ∧ rab = rb ∧ okab = true) ∨
    (oka = true ∧ (ra.g.toList == g.toList) = false ∧ okb = true ∧ (rb.g.toList == g.toList) = false ∧ rab = ra ∧ okab = true) ∨
    (oka = true ∧ (ra.g.toList == g.toList) = false ∧ okb = false ∧ rab = ra ∧ okab = true) ∨
    (oka = false ∧ okb = true ∧ (rb.g.toList == g.toList) = false ∧ rab = rb ∧ okab = true) ∨
    (oka = false ∧ okb = false ∧ rab = rb ∧ okab = false) := by
  have eh : hit g nm (A ++ B) = (hit g nm A).or (hit g nm B) := by simp [hit, List.find?_append]
  have ea : anyOf nm (A ++ B) = (anyOf nm A).or (anyOf nm B) := by simp [anyOf, List.find?_append]
  rw [namedF_eq, eh, ea] at hab
  rcases named_cases g nm A with ⟨r, h1, h2, h3⟩ | ⟨h1, h2, r, h3, h4, h5⟩ | ⟨h1, h2, h3⟩
  · rw [h2] at ha
    rw [h1] at hab
    simp only [Prod.mk.injEq] at ha
    obtain ⟨rfl, rfl⟩ := ha
    simp only [Option.some_or, Prod.mk.injEq] at hab
    exact .inl ⟨rfl, h3, hab.1.symm, hab.2.symm⟩
  · rw [h4] at ha
    simp only [Prod.mk.injEq] at ha
    obtain ⟨rfl, rfl⟩ := ha
    rcases named_cases g nm B with ⟨r', k1, k2, k3⟩ | ⟨k1, k2, r', k3, k4, k5⟩ | ⟨k1, k2, k3⟩
    · rw [k2] at hb
      rw [h1, k1] at hab
      simp only [Prod.mk.injEq] at hb
      obtain ⟨rfl, rfl⟩ := hb
      simp only [Option.none_or, Prod.mk.injEq] at hab
      exact .inr (.inl ⟨rfl, h5, rfl, k3, hab.1.symm, hab.2.symm⟩)
    · rw [k4] at hb
      rw [h1, k1, h3, h2] at hab
      simp only [Prod.mk.injEq] at hb
      obtain ⟨rfl, rfl⟩ := hb
      simp at hab
      exact .inr (.inr (.inr (.inl ⟨rfl, h5, rfl, k5, hab.1.symm, hab.2⟩)))
    · rw [k3] at hb
      rw [h1, k1, h3, h2] at hab
      simp only [Prod.mk.injEq] at hb
      obtain ⟨rfl, rfl⟩ := hb
      simp at hab
      exact .inr (.inr (.inr (.inr (.inl ⟨rfl, h5, rfl, hab.1.symm, hab.2⟩))))
  · rw [h3] at ha
    simp only [Prod.mk.injEq] at ha
    obtain ⟨rfl, rfl⟩ := ha
    rcases named_cases g nm B with ⟨r', k1, k2, k3⟩ | ⟨k1, k2, r', k3, k4, k5⟩ | ⟨k1, k2, k3⟩
    · rw [k2] at hb
      rw [h1, k1] at hab
      simp only [Prod.mk.injEq] at hb
      obtain ⟨rfl, rfl⟩ := hb
      simp only [Option.none_or, Prod.mk.injEq] at hab
      exact .inr (.inr (.inl ⟨rfl, rfl, k3, hab.1.symm, hab.2.symm⟩))
    · rw [k4] at hb
      simp only [Prod.mk.injEq] at hb
      obtain ⟨rfl, rfl⟩ := hb
      have h2' : anyOf nm A = none := by
        rcases h2 with h | h
        · rw [k2] at h; cases h
        · exact h
      rw [h1, k1, h2', k2, k3] at hab
      simp at hab
      exact .inr (.inr (.inr (.inr (.inr (.inl ⟨rfl, rfl, k5, hab.1.symm, hab.2⟩)))))
    · rw [k3] at hb
      simp only [Prod.mk.injEq] at hb
      obtain ⟨rfl, rfl⟩ := hb
      rw [h1, k1] at hab
      have : (rab, okab) = (zeroR, false) := by
        rw [← hab]
        rcases h2 with h | h
        · simp [h]
        · rcases k2 with k | k
          · simp [k]
          · simp [h, k]
      simp only [Prod.mk.injEq] at this
      exact .inr (.inr (.inr (.inr (.inr (.inr ⟨rfl, rfl, this.1, this.2⟩)))))

/-- A resource that is in the list is found under its own group and plural, or another of that group and name is. -/
theorem own_law (A : List R) (x : R) (hx : x ∈ A) {rx : R} {okx : Bool} (h : namedF x.g x.p zeroR false A = (rx, okx)) :
    okx = true ∧ (rx.g.toList == x.g.toList) = true ∧ ((rx.p.toList == x.p.toList) = true ∨ ((rx.p.toList == x.p.toList) = false ∧ (rx.s.toList == x.p.toList) = true)) := by
  cases hh : hit x.g x.p A with
  | none =>
    have := List.find?_eq_none.1 hh x hx
    simp [nameIs] at this
  | some r =>
    rw [named_hit hh] at h
    simp only [Prod.mk.injEq] at h
    obtain ⟨rfl, rfl⟩ := h
    obtain ⟨h1, h2⟩ := hit_some hh
    refine ⟨rfl, h2, ?_⟩
    unfold nameIs at h1
    cases hp : (r.p.toList == x.p.toList)
    · rw [hp] at h1
      exact .inr ⟨rfl, by simpa using h1⟩
    · exact .inl rfl

end Go.Proofs.Qxb6618336a
