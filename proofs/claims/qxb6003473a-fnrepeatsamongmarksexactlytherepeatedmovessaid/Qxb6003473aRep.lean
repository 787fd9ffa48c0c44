/-
  The plain mathematics of 'repeatsAmong': the places lo .. hi-1 hold moves; place i's move leaves F i and enters T i. No Go in sight.
-/
namespace Go.Proofs.Qxb6003473a

/-- From place j to place i all moves leave one state. -/
def RunEq (F : Nat → Int) (j i : Nat) : Prop := ∀ l, j ≤ l → l ≤ i → F l = F i
/-- Place i repeats an earlier place (not before lo) of its run. -/
def Rp (F T : Nat → Int) (lo i : Nat) : Prop := ∃ j, lo ≤ j ∧ j < i ∧ RunEq F j i ∧ T j = T i
/-- Move x is marked: it was, or a place before i that holds it repeats. -/
def RepP (rep0 : Nat → Bool) (mv : Nat → Nat) (F T : Nat → Int) (lo i x : Nat) : Prop := rep0 x = true ∨ ∃ j, lo ≤ j ∧ j < i ∧ mv j = x ∧ Rp F T lo j
/-- x is entered from a place of a .. b-1. -/
def InS (T : Nat → Int) (a b x : Nat) : Prop := ∃ j, a ≤ j ∧ j < b ∧ T j = (x : Int)
/-- The state of the moves looked at, and the place of the first of them, ahead of place i. -/
def St (F : Nat → Int) (lo i : Nat) (fr : Int) (first : Nat) : Prop :=
  lo ≤ first ∧ first ≤ i ∧ (i = lo → fr = -1 ∧ first = lo) ∧ (lo < i → first < i) ∧ (∀ j, first ≤ j → j < i → F j = fr) ∧ (lo < first → F (first - 1) ≠ fr)

theorem st_start (F : Nat → Int) (lo : Nat) : St F lo lo (-1) lo :=
  ⟨Nat.le_refl _, Nat.le_refl _, fun _ => ⟨rfl, rfl⟩, fun h => by omega, fun j h1 h2 => by omega, fun h => by omega⟩
theorem st_same {F : Nat → Int} {lo i : Nat} {fr : Int} {first : Nat} (h : St F lo i fr first) (e : F i = fr) (h0 : 0 ≤ F i) : St F lo (i + 1) fr first := by
  obtain ⟨h1, h2, h3, h4, h5, h6⟩ := h
  refine ⟨h1, by omega, fun e' => by omega, fun _ => by omega, fun j a b => ?_, h6⟩
  by_cases e' : j = i
  · subst e'; exact e
  · exact h5 j a (by omega)
theorem st_new {F : Nat → Int} {lo i : Nat} {fr : Int} {first : Nat} (h : St F lo i fr first) (e : F i ≠ fr) : St F lo (i + 1) (F i) i := by
  obtain ⟨h1, h2, h3, h4, h5, h6⟩ := h
  refine ⟨by omega, by omega, fun e' => by omega, fun _ => by omega, fun j a b => by rw [show j = i by omega], fun hl => ?_⟩
  rw [h5 (i - 1) (by have := h4 hl; omega) (by omega)]
  exact fun e' => e e'.symm
theorem st_rp {F T : Nat → Int} {lo i : Nat} {fr : Int} {first : Nat} (h : St F lo (i + 1) fr first) (hlo : lo ≤ i) : Rp F T lo i ↔ ∃ j, first ≤ j ∧ j < i ∧ T j = T i := by
  obtain ⟨h1, h2, h3, h4, h5, h6⟩ := h
  have hlt : first < i + 1 := h4 (by omega)
  have hfi := h5 i (by omega) (by omega)
  constructor
  · rintro ⟨j, a1, a2, a3, a4⟩
    refine ⟨j, ?_, a2, a4⟩
    by_cases e : first ≤ j
    · exact e
    · have := a3 (first - 1) (by omega) (by omega)
      exact absurd (this.trans hfi) (h6 (by omega))
  · rintro ⟨j, a1, a2, a3⟩
    exact ⟨j, by omega, a2, fun l b1 b2 => by rw [hfi]; exact h5 l (by omega) (by omega), a3⟩
theorem st_rp' {F T : Nat → Int} {lo i : Nat} {fr : Int} {first x : Nat} (h : St F lo (i + 1) fr first) (hlo : lo ≤ i) (hx : T i = (x : Int)) : Rp F T lo i ↔ InS T first i x := by
  rw [st_rp h hlo, hx]; rfl
theorem repP_hit {rep0 : Nat → Bool} {mv : Nat → Nat} {F T : Nat → Int} {lo i : Nat} (hlo : lo ≤ i) (h : Rp F T lo i) (x : Nat) : (x = mv i ∨ RepP rep0 mv F T lo i x) ↔ RepP rep0 mv F T lo (i + 1) x := by
  constructor
  · rintro (rfl | h1 | ⟨j, a1, a2, a3, a4⟩)
    · exact .inr ⟨i, hlo, by omega, rfl, h⟩
    · exact .inl h1
    · exact .inr ⟨j, a1, by omega, a3, a4⟩
  · rintro (h1 | ⟨j, a1, a2, a3, a4⟩)
    · exact .inr (.inl h1)
    · by_cases e : j = i
      · subst e; exact .inl a3.symm
      · exact .inr (.inr ⟨j, a1, by omega, a3, a4⟩)
theorem repP_miss {rep0 : Nat → Bool} {mv : Nat → Nat} {F T : Nat → Int} {lo i : Nat} (h : ¬ Rp F T lo i) (x : Nat) : RepP rep0 mv F T lo i x ↔ RepP rep0 mv F T lo (i + 1) x := by
  constructor
  · rintro (h1 | ⟨j, a1, a2, a3, a4⟩)
    · exact .inl h1
    · exact .inr ⟨j, a1, by omega, a3, a4⟩
  · rintro (h1 | ⟨j, a1, a2, a3, a4⟩)
    · exact .inl h1
    · by_cases e : j = i
      · subst e; exact absurd a4 h
      · exact .inr ⟨j, a1, by omega, a3, a4⟩
theorem inS_succ {T : Nat → Int} {a b : Nat} (hab : a ≤ b) (x : Nat) : (T b = (x : Int) ∨ InS T a b x) ↔ InS T a (b + 1) x := by
  constructor
  · rintro (h | ⟨j, a1, a2, a3⟩)
    · exact ⟨b, hab, by omega, h⟩
    · exact ⟨j, a1, by omega, a3⟩
  · rintro ⟨j, a1, a2, a3⟩
    by_cases e : j = b
    · subst e; exact .inl a3
    · exact .inr ⟨j, a1, by omega, a3⟩
theorem inS_none {T : Nat → Int} {a b : Nat} (h : b ≤ a) (x : Nat) : InS T a b x ↔ False :=
  ⟨fun ⟨j, a1, a2, _⟩ => by omega, fun h => h.elim⟩

end Go.Proofs.Qxb6003473a
