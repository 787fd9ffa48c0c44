/-
  The plain mathematics of 'the length of the longest shared start' of two lists of bytes. No Go in sight.
-/
namespace Go.Proofs.Qxb6003473a.Cp

/-- The length of the longest start that two lists share. -/
def cp : List UInt8 → List UInt8 → Nat
  | x :: xs, y :: ys => if x = y then cp xs ys + 1 else 0
  | _, _ => 0

theorem cp_le_left (a b : List UInt8) : cp a b ≤ a.length := by
  induction a generalizing b with
  | nil => simp [cp]
  | cons x xs ih =>
    cases b with
    | nil => simp [cp]
    | cons y ys =>
      simp only [cp, List.length_cons]
      split
      · have := ih ys; omega
      · omega

theorem cp_comm (a b : List UInt8) : cp a b = cp b a := by
  induction a generalizing b with
  | nil => cases b <;> simp [cp]
  | cons x xs ih =>
    cases b with
    | nil => simp [cp]
    | cons y ys =>
      simp only [cp]
      by_cases h : x = y
      · subst h; simp [ih ys]
      · have h' : ¬ y = x := fun e => h e.symm
        simp [h, h']

theorem cp_le_right (a b : List UInt8) : cp a b ≤ b.length := by
  rw [cp_comm]; exact cp_le_left b a

/-- Below the shared start's length both lists agree. -/
theorem cp_agree (a b : List UInt8) (i : Nat) (h : i < cp a b) : a[i]? = b[i]? := by
  induction a generalizing b i with
  | nil => simp [cp] at h
  | cons x xs ih =>
    cases b with
    | nil => simp [cp] at h
    | cons y ys =>
      simp only [cp] at h
      by_cases e : x = y
      · subst e
        rw [if_pos rfl] at h
        cases i with
        | zero => simp
        | succ i => simpa using ih ys i (by omega)
      · rw [if_neg e] at h; omega

/-- The length at which two lists that agree so far part is the shared start's length. -/
theorem cp_of_part (a b : List UInt8) (k : Nat) (hk : ∀ i, i < k → a[i]? = b[i]?) (ha : k < a.length) (hb : k < b.length) (hne : a[k]? ≠ b[k]?) : cp a b = k := by
  induction a generalizing b k with
  | nil => simp at ha
  | cons x xs ih =>
    cases b with
    | nil => simp at hb
    | cons y ys =>
      cases k with
      | zero =>
        have : ¬ x = y := by simpa using hne
        simp [cp, this]
      | succ k =>
        have e : x = y := by simpa using hk 0 (by omega)
        subst e
        simp only [cp, if_true]
        congr 1
        exact ih ys k (fun i hi => by simpa using hk (i + 1) (by omega)) (by simpa using ha) (by simpa using hb) (by simpa using hne)

/-- Two lists that agree up to the end of the shorter one. -/
theorem cp_of_end (a b : List UInt8) (k : Nat) (hk : ∀ i, i < k → a[i]? = b[i]?) (hm : k = min a.length b.length) : cp a b = k := by
  induction a generalizing b k with
  | nil => simp at hm; simp [cp, hm]
  | cons x xs ih =>
    cases b with
    | nil => simp at hm; simp [cp, hm]
    | cons y ys =>
      simp only [List.length_cons] at hm
      obtain ⟨k, rfl⟩ : ∃ j, k = j + 1 := ⟨k - 1, by omega⟩
      have e : x = y := by simpa using hk 0 (by omega)
      subst e
      simp only [cp, if_true]
      congr 1
      exact ih ys k (fun i hi => by simpa using hk (i + 1) (by omega)) (by omega)

/-- Where neither list ends at the shared start's length they differ there. -/
theorem cp_part (a b : List UInt8) (ha : cp a b < a.length) (hb : cp a b < b.length) : a[cp a b]? ≠ b[cp a b]? := by
  induction a generalizing b with
  | nil => simp at ha
  | cons x xs ih =>
    cases b with
    | nil => simp at hb
    | cons y ys =>
      by_cases e : x = y
      · subst e
        simp only [cp, if_true] at ha hb ⊢
        simpa using ih ys (by simpa using ha) (by simpa using hb)
      · simp [cp, e]

/-- The same start put before both lists adds just its length. -/
theorem cp_shift (p a b : List UInt8) : cp (p ++ a) (p ++ b) = p.length + cp a b := by
  induction p with
  | nil => simp
  | cons x xs ih => simp [cp, ih]; omega

end Go.Proofs.Qxb6003473a.Cp
