/-
  The plain mathematics of dealing moves out by the state that each leaves. 'K j': the state that move j leaves, less the first state of the range. No Go in sight.
-/
namespace Go.Proofs.Qxb6003473a

/-- How many of the first n numbers answer yes. -/
def cnt (p : Nat → Bool) : Nat → Nat
  | 0 => 0
  | n + 1 => cnt p n + (if p n then 1 else 0)

theorem cnt_mono (p : Nat → Bool) {m n : Nat} (h : m ≤ n) : cnt p m ≤ cnt p n := by
  induction n with
  | zero => rw [show m = 0 by omega]; exact Nat.le_refl _
  | succ n ih =>
    by_cases e : m = n + 1
    · subst e; exact Nat.le_refl _
    · have := ih (by omega)
      show _ ≤ cnt p n + _
      omega
theorem cnt_le (p : Nat → Bool) (n : Nat) : cnt p n ≤ n := by
  induction n with
  | zero => exact Nat.le_refl _
  | succ n ih => show cnt p n + _ ≤ _; split <;> omega
theorem cnt_congr {p q : Nat → Bool} {n : Nat} (h : ∀ j, j < n → p j = q j) : cnt p n = cnt q n := by
  induction n with
  | zero => rfl
  | succ n ih => show cnt p n + _ = cnt q n + _; rw [ih (fun j hj => h j (by omega)), h n (by omega)]
theorem cnt_sub {p q : Nat → Bool} (n : Nat) (h : ∀ j, j < n → p j = true → q j = true) : cnt p n ≤ cnt q n := by
  induction n with
  | zero => exact Nat.le_refl _
  | succ n ih =>
    have := ih (fun j hj => h j (by omega))
    have hn := h n (by omega)
    show cnt p n + _ ≤ cnt q n + _
    cases hp : p n with
    | false => simp; omega
    | true => simp [hn hp]; omega
/-- Two kinds that exclude one another. -/
theorem cnt_or {p q r : Nat → Bool} (n : Nat) (h : ∀ j, j < n → r j = (p j || q j)) (hx : ∀ j, j < n → ¬ (p j = true ∧ q j = true)) : cnt r n = cnt p n + cnt q n := by
  induction n with
  | zero => rfl
  | succ n ih =>
    have hi := ih (fun j hj => h j (by omega)) (fun j hj => hx j (by omega))
    have h1 := h n (by omega)
    have h2 := hx n (by omega)
    show cnt r n + _ = cnt p n + _ + (cnt q n + _)
    rw [h1, hi]
    cases hp : p n <;> cases hq : q n <;> simp_all <;> omega
/-- The yes with r yeses before it. -/
theorem cnt_nth (p : Nat → Bool) (n r : Nat) (h : r < cnt p n) : ∃ j, j < n ∧ p j = true ∧ cnt p j = r := by
  induction n with
  | zero => exact absurd h (Nat.not_lt_zero _)
  | succ n ih =>
    by_cases hr : r < cnt p n
    · obtain ⟨j, hj, hp, hc⟩ := ih hr
      exact ⟨j, by omega, hp, hc⟩
    · cases hp : p n with
      | false => exact absurd h (by show ¬ r < cnt p n + _; rw [hp]; simp; omega)
      | true =>
        have h' : r < cnt p n + 1 := by have : cnt p (n + 1) = cnt p n + 1 := by simp [cnt, hp]
                                        omega
        exact ⟨n, by omega, hp, by omega⟩
theorem cnt_succ (p : Nat → Bool) (n : Nat) (h : p n = true) : cnt p (n + 1) = cnt p n + 1 := by simp [cnt, h]
theorem cnt_skip (p : Nat → Bool) (n : Nat) (h : p n = false) : cnt p (n + 1) = cnt p n := by simp [cnt, h]

/-! ### The buckets -/
/-- How many of the first n moves leave state s. -/
def cEq (K : Nat → Int) (s n : Nat) : Nat := cnt (fun j => decide (K j = (s : Int))) n
/-- How many of the first n moves leave a state from 0 up to s. -/
def cLt (K : Nat → Int) (s n : Nat) : Nat := cnt (fun j => decide (0 ≤ K j ∧ K j < (s : Int))) n
/-- The place of move j. -/
def pos (K : Nat → Int) (n j : Nat) : Nat := cLt K (K j).toNat n + cEq K (K j).toNat j
/-- Move j leaves a state of the range. -/
def InR (K : Nat → Int) (S j : Nat) : Prop := 0 ≤ K j ∧ K j < (S : Int)

theorem cLt_zero (K : Nat → Int) (n : Nat) : cLt K 0 n = 0 := by
  unfold cLt
  rw [cnt_congr (q := fun _ => false) (fun j _ => decide_eq_false (by omega))]
  induction n with
  | zero => rfl
  | succ n ih => simpa [cnt] using ih
theorem cLt_succ (K : Nat → Int) (s n : Nat) : cLt K (s + 1) n = cLt K s n + cEq K s n := by
  unfold cLt cEq
  refine cnt_or n (fun j _ => ?_) (fun j _ => ?_)
  · rw [Bool.eq_iff_iff]; simp; omega
  · simp; omega
theorem cLt_mono (K : Nat → Int) {s t : Nat} (n : Nat) (h : s ≤ t) : cLt K s n ≤ cLt K t n := by
  unfold cLt
  refine cnt_sub n (fun j _ => ?_)
  simp; omega
theorem cEq_mono (K : Nat → Int) (s : Nat) {m n : Nat} (h : m ≤ n) : cEq K s m ≤ cEq K s n := cnt_mono _ h
theorem cLt_le (K : Nat → Int) (s n : Nat) : cLt K s n ≤ n := cnt_le _ _
theorem cEq_le (K : Nat → Int) (s n : Nat) : cEq K s n ≤ n := cnt_le _ _
theorem cEq_hit (K : Nat → Int) (s n : Nat) (h : K n = (s : Int)) : cEq K s (n + 1) = cEq K s n + 1 := cnt_succ _ _ (by simpa using h)
theorem cEq_miss (K : Nat → Int) (s n : Nat) (h : K n ≠ (s : Int)) : cEq K s (n + 1) = cEq K s n := cnt_skip _ _ (by simpa using h)
theorem cLt_hit (K : Nat → Int) (s n : Nat) (h : InR K s n) : cLt K s (n + 1) = cLt K s n + 1 := cnt_succ _ _ (by simpa [InR] using h)
theorem cLt_miss (K : Nat → Int) (s n : Nat) (h : ¬ InR K s n) : cLt K s (n + 1) = cLt K s n := by
  refine cnt_skip _ _ ?_
  simp; unfold InR at h; omega
theorem cEq_nth (K : Nat → Int) (s n r : Nat) (h : r < cEq K s n) : ∃ j, j < n ∧ K j = (s : Int) ∧ cEq K s j = r := by
  obtain ⟨j, hj, hp, hc⟩ := cnt_nth _ n r h
  exact ⟨j, hj, by simpa using hp, hc⟩
theorem cEq_lt_of (K : Nat → Int) (s : Nat) {j j' : Nat} (h : K j = (s : Int)) (hc : cEq K s j' ≤ cEq K s j) : j' ≤ j := by
  by_cases e : j' ≤ j
  · exact e
  · have h1 := cEq_mono K s (show j + 1 ≤ j' by omega)
    have h2 := cEq_hit K s j h
    omega

theorem pos_eq (K : Nat → Int) (n j s : Nat) (h : K j = (s : Int)) : pos K n j = cLt K s n + cEq K s j := by
  unfold pos; rw [h]; simp
/-- A place lies within its bucket. -/
theorem pos_lt (K : Nat → Int) (n j s : Nat) (h : K j = (s : Int)) (hj : j < n) : pos K n j < cLt K (s + 1) n := by
  rw [pos_eq K n j s h, cLt_succ]
  have h1 := cEq_mono K s (show j + 1 ≤ n by omega)
  have h2 := cEq_hit K s j h
  omega
theorem pos_lt_all (K : Nat → Int) (S n j : Nat) (h : InR K S j) (hj : j < n) : pos K n j < cLt K S n := by
  obtain ⟨h0, h1⟩ := h
  obtain ⟨s, hs⟩ := Int.eq_ofNat_of_zero_le h0
  have := pos_lt K n j s hs hj
  have := cLt_mono K n (show s + 1 ≤ S by omega)
  omega
/-- Two moves of the range never share a place. -/
theorem pos_inj (K : Nat → Int) (n j j' : Nat) (h0 : 0 ≤ K j) (h0' : 0 ≤ K j') (hj : j < n) (hj' : j' < n) (e : pos K n j = pos K n j') : j = j' := by
  obtain ⟨s, hs⟩ := Int.eq_ofNat_of_zero_le h0
  obtain ⟨s', hs'⟩ := Int.eq_ofNat_of_zero_le h0'
  have l1 := pos_lt K n j s hs hj
  have l2 := pos_lt K n j' s' hs' hj'
  have e1 := pos_eq K n j s hs
  have e2 := pos_eq K n j' s' hs'
  by_cases h1 : s < s'
  · have := cLt_mono K n (show s + 1 ≤ s' by omega); omega
  · by_cases h2 : s' < s
    · have := cLt_mono K n (show s' + 1 ≤ s by omega); omega
    · have : s = s' := by omega
      subst this
      have a1 := cEq_lt_of K s hs (j' := j') (by omega)
      have a2 := cEq_lt_of K s hs' (j' := j) (by omega)
      omega
/-- Every place of a bucket is some move's. -/
theorem pos_onto (K : Nat → Int) (s n i : Nat) (h1 : cLt K s n ≤ i) (h2 : i < cLt K (s + 1) n) : ∃ j, j < n ∧ K j = (s : Int) ∧ pos K n j = i ∧ cEq K s j = i - cLt K s n := by
  rw [cLt_succ] at h2
  obtain ⟨j, hj, hk, hc⟩ := cEq_nth K s n (i - cLt K s n) (by omega)
  exact ⟨j, hj, hk, by rw [pos_eq K n j s hk]; omega, hc⟩

end Go.Proofs.Qxb6003473a
