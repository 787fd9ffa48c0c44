/-
  More of the plain mathematics of dealing moves out: all moves in the range; moves that come sorted.
-/
import Derived.Test.Qxb6003473aCnt
namespace Go.Proofs.Qxb6003473a

theorem cnt_all (p : Nat → Bool) (n : Nat) (h : ∀ j, j < n → p j = true) : cnt p n = n := by
  induction n with
  | zero => rfl
  | succ n ih => rw [cnt_succ p n (h n (by omega)), ih (fun j hj => h j (by omega))]
theorem cnt_rest (p : Nat → Bool) (m n : Nat) (hmn : m ≤ n) (h : ∀ j, m ≤ j → j < n → p j = false) : cnt p n = cnt p m := by
  induction n with
  | zero => rw [show m = 0 by omega]
  | succ n ih =>
    by_cases e : m = n + 1
    · rw [e]
    · rw [cnt_skip p n (h n (by omega) (by omega)), ih (by omega) (fun j h1 h2 => h j h1 (by omega))]

theorem cLt_all (K : Nat → Int) (S n : Nat) (h : ∀ j, j < n → InR K S j) : cLt K S n = n :=
  cnt_all _ n (fun j hj => by simpa [InR] using h j hj)

/-- Every place is some move's. -/
theorem pos_onto_all (K : Nat → Int) (S n i : Nat) (h : i < cLt K S n) : ∃ j, j < n ∧ InR K S j ∧ pos K n j = i := by
  induction S with
  | zero => rw [cLt_zero] at h; omega
  | succ S ih =>
    by_cases hs : i < cLt K S n
    · obtain ⟨j, h1, h2, h3⟩ := ih hs
      exact ⟨j, h1, ⟨h2.1, by have := h2.2; omega⟩, h3⟩
    · obtain ⟨j, h1, h2, h3, _⟩ := pos_onto K S n i (by omega) h
      exact ⟨j, h1, ⟨by omega, by omega⟩, h3⟩

/-- The moves come by the states that they leave. -/
def Srt (K : Nat → Int) (n : Nat) : Prop := ∀ k, 1 ≤ k → k < n → K (k - 1) ≤ K k
theorem Srt.le {K : Nat → Int} {n : Nat} (h : Srt K n) {i j : Nat} (hij : i ≤ j) (hj : j < n) : K i ≤ K j := by
  induction j with
  | zero => rw [show i = 0 by omega]; exact Int.le_refl _
  | succ j ih =>
    by_cases e : i = j + 1
    · rw [e]; exact Int.le_refl _
    · have h1 := ih (by omega) (by omega)
      have h2 := h (j + 1) (by omega) hj
      simp only [Nat.add_sub_cancel] at h2
      omega
/-- Then each move lies at its own index. -/
theorem pos_srt (K : Nat → Int) (n j : Nat) (h : Srt K n) (h0 : ∀ j, j < n → 0 ≤ K j) (hj : j < n) : pos K n j = j := by
  obtain ⟨s, hs⟩ := Int.eq_ofNat_of_zero_le (h0 j hj)
  rw [pos_eq K n j s hs]
  have e1 : cLt K s n = cLt K s j := by
    unfold cLt
    refine cnt_rest _ j n (by omega) (fun i h1 h2 => ?_)
    have := h.le h1 h2
    simp; omega
  have e2 := cLt_succ K s j
  have e3 : cLt K (s + 1) j = j := cLt_all K (s + 1) j (fun i hi => ⟨h0 i (by omega), by have := h.le (Nat.le_of_lt hi) hj; omega⟩)
  omega

/-! ### groupMovesBy's starts -/
/-- Behind the counting of the first k moves: a state's moves are counted one place on. -/
def sg1 (K : Nat → Int) (k t : Nat) : Int := if t = 0 then 0 else (cEq K (t - 1) k : Int)
/-- Behind the sums up to place t. -/
def sg2 (K : Nat → Int) (n t s : Nat) : Int := if s < t then (cLt K s n : Int) else sg1 K n s
theorem sg1_hit {K : Nat → Int} {k t : Nat} (hs : K k = (t : Int)) (s : Nat) : (if s = t + 1 then ((cEq K t k : Nat) : Int) + 1 else sg1 K k s) = sg1 K (k + 1) s := by
  unfold sg1
  by_cases e : s = t + 1
  · subst e; rw [if_pos rfl, if_neg (by omega), Nat.add_sub_cancel, cEq_hit K t k hs]; omega
  · rw [if_neg e]
    by_cases h : s = 0
    · rw [if_pos h, if_pos h]
    · rw [if_neg h, if_neg h, cEq_miss K (s - 1) k (by rw [hs]; omega)]
theorem sg2_start {K : Nat → Int} {n : Nat} (s : Nat) : sg1 K n s = sg2 K n 1 s := by
  unfold sg2
  by_cases e : s < 1
  · rw [if_pos e]; obtain rfl : s = 0 := by omega
    rw [cLt_zero]; rfl
  · rw [if_neg e]
theorem sg2_val {K : Nat → Int} {n t : Nat} (h1 : 1 ≤ t) : sg2 K n t t + sg2 K n t (t - 1) = (cLt K t n : Int) := by
  unfold sg2 sg1
  rw [if_neg (by omega), if_neg (by omega), if_pos (by omega)]
  have := cLt_succ K (t - 1) n
  rw [show t - 1 + 1 = t by omega] at this
  omega
theorem sg2_step {K : Nat → Int} {n t : Nat} (s : Nat) : (if s = t then (cLt K t n : Int) else sg2 K n t s) = sg2 K n (t + 1) s := by
  unfold sg2
  by_cases e : s = t
  · subst e; rw [if_pos rfl, if_pos (by omega)]
  · rw [if_neg e]
    by_cases h : s < t
    · rw [if_pos h, if_pos (by omega)]
    · rw [if_neg h, if_neg (by omega)]
theorem sg1_nat (K : Nat → Int) (k t : Nat) : ∃ c : Nat, sg1 K k t = (c : Int) ∧ c ≤ k := by
  unfold sg1
  by_cases h : t = 0
  · rw [if_pos h]; exact ⟨0, rfl, Nat.zero_le _⟩
  · rw [if_neg h]; exact ⟨_, rfl, cEq_le _ _ _⟩
theorem sg2_nat (K : Nat → Int) (n t s : Nat) : ∃ c : Nat, sg2 K n t s = (c : Int) ∧ c ≤ n := by
  unfold sg2
  by_cases h : s < t
  · rw [if_pos h]; exact ⟨_, rfl, cLt_le _ _ _⟩
  · rw [if_neg h]; exact sg1_nat K n s
theorem sg2_end {K : Nat → Int} {n t : Nat} (s : Nat) (hs : s < t) : sg2 K n t s = (cLt K s n : Int) := by
  unfold sg2; rw [if_pos hs]

end Go.Proofs.Qxb6003473a
