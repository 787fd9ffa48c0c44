/-
  Where each move lies, and what that makes of 'repeated': plain mathematics, no Go in sight.
-/
import Derived.Test.Qxb6003473aCnt2
import Derived.Test.Qxb6003473aRep
namespace Go.Proofs.Qxb6003473a

/-- mv gives the move at each place. -/
def Placed (K : Nat → Int) (S n : Nat) (mv : Nat → Nat) : Prop := (∀ j, j < n → InR K S j) ∧ ∀ j, j < n → mv (pos K n j) = j

theorem Placed.at {K : Nat → Int} {S n : Nat} {mv : Nat → Nat} (h : Placed K S n mv) {i : Nat} (hi : i < n) : mv i < n ∧ pos K n (mv i) = i := by
  obtain ⟨j, h1, h2, h3⟩ := pos_onto_all K S n i (by rw [cLt_all K S n h.1]; exact hi)
  have := h.2 j h1
  rw [h3] at this
  rw [this]
  exact ⟨h1, h3⟩
theorem Placed.lt {K : Nat → Int} {S n : Nat} {mv : Nat → Nat} (h : Placed K S n mv) {j : Nat} (hj : j < n) : pos K n j < n := by
  have := pos_lt_all K S n j (h.1 j hj) hj
  rwa [cLt_all K S n h.1] at this
/-- The places below the start of a state's moves hold moves of smaller states. -/
theorem Placed.cut {K : Nat → Int} {S n : Nat} {mv : Nat → Nat} (h : Placed K S n mv) (c : Nat) {i : Nat} (hi : i < n) : K (mv i) < (c : Int) ↔ i < cLt K c n := by
  obtain ⟨h1, h2⟩ := h.at hi
  obtain ⟨s, hs⟩ := Int.eq_ofNat_of_zero_le (h.1 _ h1).1
  have a1 := pos_lt K n _ s hs h1
  have a2 := pos_eq K n _ s hs
  rw [h2] at a1 a2
  constructor
  · intro hc
    have := cLt_mono K n (show s + 1 ≤ c by omega)
    omega
  · intro hc
    by_cases e : s < c
    · omega
    · have := cLt_mono K n (show c ≤ s by omega)
      omega

/-- Cutting the places at the start of a state's moves turns no mark. -/
theorem split_same {K G : Nat → Int} {S n c : Nat} {mv : Nat → Nat} (h : Placed K S n mv) {rep0 rep1 : Nat → Bool} (h1 : ∀ x, x < n → (rep1 x = true ↔ RepP rep0 mv (fun i => K (mv i)) (fun i => G (mv i)) (cLt K c n) n x)) (x : Nat) (hx : x < n) :
    RepP rep1 mv (fun i => K (mv i)) (fun i => G (mv i)) 0 (cLt K c n) x ↔ RepP rep0 mv (fun i => K (mv i)) (fun i => G (mv i)) 0 n x := by
  have hmid := cLt_le K c n
  have key : ∀ j, cLt K c n ≤ j → j < n → (Rp (fun i => K (mv i)) (fun i => G (mv i)) 0 j ↔ Rp (fun i => K (mv i)) (fun i => G (mv i)) (cLt K c n) j) := by
    intro j hj hjn
    constructor
    · rintro ⟨l, a1, a2, a3, a4⟩
      refine ⟨l, ?_, a2, a3, a4⟩
      by_cases e : cLt K c n ≤ l
      · exact e
      · have b1 := (h.cut c (i := l) (by omega)).2 (by omega)
        have b2 : K (mv l) = K (mv j) := a3 l (Nat.le_refl _) (by omega)
        have b3 := (h.cut c hjn).1 (by omega)
        omega
    · rintro ⟨l, a1, a2, a3, a4⟩
      exact ⟨l, by omega, a2, a3, a4⟩
  constructor
  · rintro (hr | ⟨j, a1, a2, a3, a4⟩)
    · rcases (h1 x hx).1 hr with hr | ⟨j, a1, a2, a3, a4⟩
      · exact .inl hr
      · exact .inr ⟨j, by omega, a2, a3, (key j a1 a2).2 a4⟩
    · exact .inr ⟨j, a1, by omega, a3, a4⟩
  · rintro (hr | ⟨j, a1, a2, a3, a4⟩)
    · exact .inl ((h1 x hx).2 (.inl hr))
    · by_cases e : cLt K c n ≤ j
      · exact .inl ((h1 x hx).2 (.inr ⟨j, e, a2, a3, (key j e a2).1 a4⟩))
      · exact .inr ⟨j, a1, by omega, a3, a4⟩

/-- A move is marked just where a move of a smaller index joins the same two states. -/
theorem marks_exact {K G : Nat → Int} {S n : Nat} {mv : Nat → Nat} (h : Placed K S n mv) {rep0 : Nat → Bool} (h0 : ∀ x, rep0 x = false) (x : Nat) (hx : x < n) :
    RepP rep0 mv (fun i => K (mv i)) (fun i => G (mv i)) 0 n x ↔ ∃ j, j < x ∧ K j = K x ∧ G j = G x := by
  obtain ⟨s, hs⟩ := Int.eq_ofNat_of_zero_le (h.1 x hx).1
  have ex := pos_eq K n x s hs
  constructor
  · rintro (hr | ⟨i, _, hi, hm, l, a1, a2, a3, a4⟩)
    · rw [h0] at hr; cases hr
    · obtain ⟨b1, b2⟩ := h.at hi
      rw [hm] at b2
      obtain ⟨c1, c2⟩ := h.at (i := l) (by omega)
      have d1 : K (mv l) = K (mv i) := a3 l (Nat.le_refl _) (by omega)
      have d2 : G (mv l) = G (mv i) := a4
      rw [hm] at d1 d2
      refine ⟨mv l, ?_, d1, d2⟩
      have e1 := pos_eq K n (mv l) s (by rw [d1, hs])
      by_cases e : mv l < x
      · exact e
      · have := cEq_mono K s (show x ≤ mv l by omega)
        omega
  · rintro ⟨j, a1, a2, a3⟩
    have ej := pos_eq K n j s (by rw [a2, hs])
    have l1 := cEq_hit K s j (by rw [a2, hs])
    have l2 := cEq_mono K s (show j + 1 ≤ x by omega)
    have l3 := pos_lt K n x s hs hx
    refine .inr ⟨pos K n x, Nat.zero_le _, h.lt hx, h.2 x hx, pos K n j, Nat.zero_le _, by omega, fun l b1 b2 => ?_, ?_⟩
    · have hl : l < n := by have := h.lt hx; omega
      obtain ⟨c1, c2⟩ := h.at hl
      obtain ⟨j', d1, d2, d3, _⟩ := pos_onto K s n l (by omega) (by omega)
      have : mv l = j' := by rw [← d3]; exact h.2 j' d1
      show K (mv l) = K (mv (pos K n x))
      rw [h.2 x hx, this, d2, hs]
    · show G (mv (pos K n j)) = G (mv (pos K n x))
      rw [h.2 x hx, h.2 j (by omega), a3]

end Go.Proofs.Qxb6003473a
