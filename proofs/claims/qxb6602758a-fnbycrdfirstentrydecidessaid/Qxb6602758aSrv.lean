/-
  What servedInstead says, as plain functions on lists of bytes.
-/
import Derived.Lib.Join
namespace Go.Proofs.Qxb6602758a

/-- The names of the first k versions that are served and not deprecated. -/
def srv (nm : Nat → ByteArray) (sv dp : Nat → Bool) : Nat → List ByteArray
  | 0 => []
  | k + 1 => srv nm sv dp k ++ (if sv k && !dp k then [nm k] else [])
/-- The bytes of the first k strings, added up. -/
def sumB (nm : Nat → ByteArray) : Nat → Nat
  | 0 => 0
  | k + 1 => sumB nm k + (nm k).size

theorem srv_yes {nm : Nat → ByteArray} {sv dp : Nat → Bool} {k : Nat} (h1 : sv k = true) (h2 : dp k = false) : srv nm sv dp (k + 1) = srv nm sv dp k ++ [nm k] := by simp [srv, h1, h2]
theorem srv_no {nm : Nat → ByteArray} {sv dp : Nat → Bool} {k : Nat} (h : sv k = false ∨ dp k = true) : srv nm sv dp (k + 1) = srv nm sv dp k := by
  rcases h with h | h <;> simp [srv, h]
theorem srv_len (nm : Nat → ByteArray) (sv dp : Nat → Bool) (k : Nat) : (srv nm sv dp k).length ≤ k := by
  induction k with
  | zero => simp [srv]
  | succ k ih => simp only [srv, List.length_append]; split <;> simp <;> omega
theorem srv_lens (nm : Nat → ByteArray) (sv dp : Nat → Bool) (k : Nat) : Lib.lens ((srv nm sv dp k).map (·.data.toList)) ≤ sumB nm k := by
  induction k with
  | zero => simp [srv, Lib.lens]
  | succ k ih =>
    simp only [srv, sumB]
    unfold Lib.lens at ih ⊢
    split
    · simp; simpa using ih
    · simp; simp at ih; omega
theorem sumB_mono (nm : Nat → ByteArray) {k n : Nat} (h : k ≤ n) : sumB nm k ≤ sumB nm n := by
  induction n with
  | zero => rw [show k = 0 by omega]; exact Nat.le_refl _
  | succ n ih =>
    by_cases e : k = n + 1
    · subst e; exact Nat.le_refl _
    · have := ih (by omega)
      show _ ≤ sumB nm n + _
      omega
theorem sumB_one (nm : Nat → ByteArray) {k n : Nat} (h : k < n) : (nm k).size ≤ sumB nm n := by
  have := sumB_mono nm (show k + 1 ≤ n by omega)
  have e : sumB nm (k + 1) = sumB nm k + (nm k).size := rfl
  omega
theorem join_len (xs : List (List UInt8)) (sep : List UInt8) : (Lib.join xs sep).length ≤ Lib.lens xs + sep.length * xs.length := by
  cases xs with
  | nil => simp [Lib.join_nil]
  | cons x r =>
    rw [Lib.join_cons, List.length_append, Lib.joinTail_length]
    simp only [Lib.lens, List.map_cons, List.sum_cons, List.length_cons, Nat.mul_succ]
    omega
/-- Served and not deprecated at some place: the list is not empty. -/
theorem srv_ne (nm : Nat → ByteArray) (sv dp : Nat → Bool) {n i : Nat} (hi : i < n) (h1 : sv i = true) (h2 : dp i = false) : srv nm sv dp n ≠ [] := by
  induction n with
  | zero => omega
  | succ n ih =>
    by_cases e : i = n
    · subst e; rw [srv_yes h1 h2]; simp
    · intro h
      rw [srv, List.append_eq_nil_iff] at h
      exact ih (by omega) h.1
theorem srv_one_no (nm : Nat → ByteArray) (sv dp : Nat → Bool) (h : sv 0 = false ∨ dp 0 = true) : srv nm sv dp 1 = [] := by rw [srv_no h]; rfl

/-! ### The texts -/
def noneB : ByteArray := ⟨#[105, 116, 115, 32, 67, 82, 68, 32, 115, 101, 114, 118, 101, 115, 32, 110, 111, 32, 118, 101, 114, 115, 105, 111, 110, 32, 116, 104, 97, 116, 32, 105, 115, 32, 110, 111, 116, 32, 100, 101, 112, 114, 101, 99, 97, 116, 101, 100]⟩
def joinB (xs : List ByteArray) : ByteArray := ⟨(Lib.join (xs.map (·.data.toList)) [32, 111, 114, 32]).toArray⟩
/-- What servedInstead answers. -/
def siB (nm : Nat → ByteArray) (sv dp : Nat → Bool) (n : Nat) : ByteArray :=
  if (srv nm sv dp n).isEmpty then noneB else ((⟨#[117, 115, 101, 32]⟩ : ByteArray) ++ joinB (srv nm sv dp n)) ++ (⟨#[32, 105, 110, 115, 116, 101, 97, 100]⟩ : ByteArray)
theorem joinB_size (nm : Nat → ByteArray) (sv dp : Nat → Bool) (n : Nat) : (joinB (srv nm sv dp n)).size ≤ sumB nm n + 4 * n := by
  have h1 := join_len ((srv nm sv dp n).map (·.data.toList)) [32, 111, 114, 32]
  have h2 := srv_lens nm sv dp n
  have h3 := srv_len nm sv dp n
  have h4 : (joinB (srv nm sv dp n)).size = (Lib.join ((srv nm sv dp n).map (·.data.toList)) [32, 111, 114, 32]).length := by simp [joinB, ByteArray.size]
  rw [h4]
  simp only [List.length_map, List.length_cons, List.length_nil] at h1
  omega
theorem siB_size (nm : Nat → ByteArray) (sv dp : Nat → Bool) (n : Nat) : (siB nm sv dp n).size ≤ sumB nm n + 4 * n + 48 := by
  unfold siB
  split
  · show 48 ≤ _; omega
  · have := joinB_size nm sv dp n
    rw [ByteArray.size_append, ByteArray.size_append]
    show 4 + _ + 8 ≤ _
    omega
end Go.Proofs.Qxb6602758a
