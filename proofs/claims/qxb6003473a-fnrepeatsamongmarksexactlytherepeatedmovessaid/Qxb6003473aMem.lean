/-
  MEMORY, as the walks of this seat speak of it: a block of the call's own that holds integers ('Row'), pairs of integers ('Row2') or bools ('RowB'), each by an index function; a slice that can be read ('IntsAt', 'PairsAt').
-/
import Derived.WalkKit
namespace Go.Proofs.Qxb6003473a
open Go.RowKit

/-! ### Blocks of the call's own -/
def ints (n : Nat) (f : Nat → Int) : Array Value := ((List.range n).map fun i => Value.int .i64 (f i)).toArray
def pairs (n : Nat) (f f' : Nat → Int) : Array Value := ((List.range (n * 2)).map fun i => Value.int .i64 (if i % 2 = 0 then f (i / 2) else f' (i / 2))).toArray
def bools (n : Nat) (f : Nat → Bool) : Array Value := ((List.range n).map fun i => Value.bool (f i)).toArray

/-- Block g is a row of n ints, number i is f i; none of its cells is frozen. -/
def Row (w : World) (g n : Nat) (f : Nat → Int) : Prop := w.heap[g]? = some (.cells (ints n f) 3 (0, 0))
/-- Block g is a row of n pairs of ints; pair i is (f i, f' i). -/
def Row2 (w : World) (g n : Nat) (f f' : Nat → Int) : Prop := w.heap[g]? = some (.cells (pairs n f f') 28 (0, 0))
/-- Block g is a row of n bools. -/
def RowB (w : World) (g n : Nat) (f : Nat → Bool) : Prop := w.heap[g]? = some (.cells (bools n f) 4 (0, 0))

theorem ints_congr {n : Nat} {f f' : Nat → Int} (h : ∀ i, i < n → f i = f' i) : ints n f = ints n f' := by
  unfold ints
  rw [List.map_congr_left (fun i hi => by rw [h i (List.mem_range.1 hi)])]
theorem bools_congr {n : Nat} {f f' : Nat → Bool} (h : ∀ i, i < n → f i = f' i) : bools n f = bools n f' := by
  unfold bools
  rw [List.map_congr_left (fun i hi => by rw [h i (List.mem_range.1 hi)])]

theorem set_range {α : Type} (m i : Nat) (p : Nat → α) (x : α) : ((List.range m).map p).toArray.setIfInBounds i x = ((List.range m).map fun j => if j = i then x else p j).toArray := by
  apply Array.ext
  · simp
  · intro j h1 h2
    simp only [List.getElem_toArray, List.getElem_map, List.getElem_range]
    by_cases hj : i = j
    · subst hj; simp
    · have hj' : ¬ j = i := fun e => hj e.symm
      simp [hj, hj']

section
variable {w w' : World} {g n : Nat} {f f' : Nat → Int}

theorem Row.lt (h : Row w g n f) : g < w.heap.size := (Array.getElem?_eq_some_iff.1 h).1
theorem Row2.lt (h : Row2 w g n f f') : g < w.heap.size := (Array.getElem?_eq_some_iff.1 h).1
theorem RowB.lt {f : Nat → Bool} (h : RowB w g n f) : g < w.heap.size := (Array.getElem?_eq_some_iff.1 h).1

theorem Row.cell (h : Row w g n f) {i : Nat} (hi : i < n) : w.cell? ⟨g, i, none⟩ = some (.int .i64 (f i)) := by
  rw [cell_of_row w g i _ _ _ h]; simp [ints, hi]
theorem Row2.cell0 (h : Row2 w g n f f') {i : Nat} (hi : i < n) : w.cell? ⟨g, i * 2, none⟩ = some (.int .i64 (f i)) := by
  have h1 : i * 2 < n * 2 := by omega
  have h2 : i * 2 % 2 = 0 := by omega
  have h3 : i * 2 / 2 = i := by omega
  rw [cell_of_row w g _ _ _ _ h]; simp [pairs, h1, h2, h3]
theorem Row2.cell1 (h : Row2 w g n f f') {i : Nat} (hi : i < n) : w.cell? ⟨g, i * 2 + 1, none⟩ = some (.int .i64 (f' i)) := by
  have h1 : i * 2 + 1 < n * 2 := by omega
  have h2 : (i * 2 + 1) % 2 = 1 := by omega
  have h3 : (i * 2 + 1) / 2 = i := by omega
  rw [cell_of_row w g _ _ _ _ h]; simp [pairs, h1, h2, h3]
theorem RowB.cell {f : Nat → Bool} (h : RowB w g n f) {i : Nat} (hi : i < n) : w.cell? ⟨g, i, none⟩ = some (.bool (f i)) := by
  rw [cell_of_row w g i _ _ _ h]; simp [bools, hi]

theorem Row.free (h : Row w g n f) (i : Nat) : w.frozen? ⟨g, i, none⟩ = false := frozen_of_row w g i _ _ h
theorem Row2.free (h : Row2 w g n f f') (i : Nat) : w.frozen? ⟨g, i, none⟩ = false := frozen_of_row w g i _ _ h
theorem RowB.free {f : Nat → Bool} (h : RowB w g n f) (i : Nat) : w.frozen? ⟨g, i, none⟩ = false := frozen_of_row w g i _ _ h

theorem Row.same (h : Row w g n f) (hb : w'.heap[g]? = w.heap[g]?) : Row w' g n f := hb.trans h
theorem Row2.same (h : Row2 w g n f f') (hb : w'.heap[g]? = w.heap[g]?) : Row2 w' g n f f' := hb.trans h
theorem RowB.same {f : Nat → Bool} (h : RowB w g n f) (hb : w'.heap[g]? = w.heap[g]?) : RowB w' g n f := hb.trans h

theorem Row.congr {f' : Nat → Int} (h : Row w g n f) (e : ∀ i, i < n → f i = f' i) : Row w g n f' := by
  unfold Row at h ⊢; rw [← ints_congr e]; exact h
theorem RowB.congr {f f' : Nat → Bool} (h : RowB w g n f) (e : ∀ i, i < n → f i = f' i) : RowB w g n f' := by
  unfold RowB at h ⊢; rw [← bools_congr e]; exact h

theorem Row.set (h : Row w g n f) (i : Nat) (v : Int) : Row (w.setCell ⟨g, i, none⟩ (.int .i64 v)) g n (fun j => if j = i then v else f j) := by
  unfold Row
  rw [heap_setCell_same w g i _ _ _ h]
  unfold ints
  rw [set_range]
  congr 4
  funext j
  by_cases hji : j = i <;> simp [hji]
/-- Both cells of pair k are stored. -/
theorem Row2.set (h : Row2 w g n f f') (k : Nat) (x y : Int) : Row2 ((w.setCell ⟨g, k * 2, none⟩ (.int .i64 x)).setCell ⟨g, k * 2 + 1, none⟩ (.int .i64 y)) g n (fun j => if j = k then x else f j) (fun j => if j = k then y else f' j) := by
  unfold Row2
  rw [heap_setCell_same _ g _ _ _ _ (heap_setCell_same w g _ _ _ _ h)]
  unfold pairs
  rw [set_range, set_range]
  congr 4
  funext j
  by_cases h1 : j = k * 2 + 1
  · have a1 : (k * 2 + 1) % 2 = 1 := by omega
    have a2 : (k * 2 + 1) / 2 = k := by omega
    subst h1; simp [a1, a2]
  · by_cases h2 : j = k * 2
    · have a1 : k * 2 % 2 = 0 := by omega
      have a2 : k * 2 / 2 = k := by omega
      subst h2; simp [a1, a2]
    · simp only [h1, h2, if_false]
      by_cases h3 : j % 2 = 0
      · have : ¬ j / 2 = k := by omega
        simp [h3, this]
      · have : ¬ j / 2 = k := by omega
        simp [h3, this]
theorem Row2.congr {e e' : Nat → Int} (h : Row2 w g n f f') (h0 : ∀ i, i < n → f i = e i) (h1 : ∀ i, i < n → f' i = e' i) : Row2 w g n e e' := by
  have : pairs n f f' = pairs n e e' := by
    unfold pairs
    rw [List.map_congr_left (fun i hi => by have := List.mem_range.1 hi; rw [h0 (i / 2) (by omega), h1 (i / 2) (by omega)])]
  unfold Row2 at h ⊢; rw [← this]; exact h
theorem RowB.set {f : Nat → Bool} (h : RowB w g n f) (i : Nat) (v : Bool) : RowB (w.setCell ⟨g, i, none⟩ (.bool v)) g n (fun j => if j = i then v else f j) := by
  unfold RowB
  rw [heap_setCell_same w g i _ _ _ h]
  unfold bools
  rw [set_range]
  congr 4
  funext j
  by_cases hji : j = i <;> simp [hji]

theorem Row.new (w : World) (n : Nat) (f : Nat → Int) : Row (w.alloc (.cells (ints n f) 3)) w.heap.size n f := heap_alloc_new w _
theorem Row2.new (w : World) (n : Nat) (f f' : Nat → Int) : Row2 (w.alloc (.cells (pairs n f f') 28)) w.heap.size n f f' := heap_alloc_new w _
theorem RowB.new (w : World) (n : Nat) (f : Nat → Bool) : RowB (w.alloc (.cells (bools n f) 4)) w.heap.size n f := heap_alloc_new w _
end

/-! ### The box of a struct of two slices that a function hands back -/
def Box (w : World) (g : Nat) : Prop := ∃ x y, w.heap[g]? = some (.cells #[x, y] 41 (0, 0))
theorem Box.same {w w' : World} {g : Nat} (h : Box w g) (hb : w'.heap[g]? = w.heap[g]?) : Box w' g := by
  obtain ⟨x, y, h⟩ := h
  exact ⟨x, y, hb.trans h⟩
theorem Box.lt {w : World} {g : Nat} (h : Box w g) : g < w.heap.size := by
  obtain ⟨x, y, h⟩ := h
  exact (Array.getElem?_eq_some_iff.1 h).1

/-! ### One block apart -/
/-- A cell of another block is set: this block stands. -/
theorem heap_set_other (w : World) {a : Addr} {v : Value} {g : Nat} (h : g ≠ a.block) : (w.setCell a v).heap[g]? = w.heap[g]? := heap_setCell_other w a g v h
theorem heap_alloc_lt (w : World) (o : Obj) {g : Nat} (h : g < w.heap.size) : (w.alloc o).heap[g]? = w.heap[g]? := Below.heap_alloc w o g h

/-! ### Slices that can be read -/
/-- The n ints of a slice at 'ao'. -/
def IntsAt (w : World) (ao : Option Addr) (n : Nat) (f : Nat → Int) : Prop :=
  ∀ i, i < n → ∃ b off, ao = some ⟨b, off, none⟩ ∧ w.cell? ⟨b, off + i, none⟩ = some (.int .i64 (f i))
/-- The n pairs of a slice at 'ao': pair i is (f i, g i). -/
def PairsAt (w : World) (ao : Option Addr) (n : Nat) (f g : Nat → Int) : Prop :=
  ∀ i, i < n → ∃ b off, ao = some ⟨b, off, none⟩ ∧ w.cell? ⟨b, off + i * 2, none⟩ = some (.int .i64 (f i)) ∧ w.cell? ⟨b, off + i * 2 + 1, none⟩ = some (.int .i64 (g i))

theorem IntsAt.below {w w' : World} {ao : Option Addr} {n : Nat} {f : Nat → Int} (h : IntsAt w ao n f) (hb : Below w.heap.size w w') : IntsAt w' ao n f := by
  intro i hi
  obtain ⟨b, off, e, hc⟩ := h i hi
  exact ⟨b, off, e, (hb.cell (p := ⟨b, off + i, none⟩) (block_lt_of_cell hc)).trans hc⟩
theorem PairsAt.below {w w' : World} {ao : Option Addr} {n : Nat} {f g : Nat → Int} (h : PairsAt w ao n f g) (hb : Below w.heap.size w w') : PairsAt w' ao n f g := by
  intro i hi
  obtain ⟨b, off, e, hc, hc'⟩ := h i hi
  exact ⟨b, off, e, (hb.cell (p := ⟨b, off + i * 2, none⟩) (block_lt_of_cell hc)).trans hc, (hb.cell (p := ⟨b, off + i * 2 + 1, none⟩) (block_lt_of_cell hc')).trans hc'⟩

theorem Row.at {w : World} {g n : Nat} {f : Nat → Int} (h : Row w g n f) : IntsAt w (some ⟨g, 0, none⟩) n f :=
  fun i hi => ⟨g, 0, rfl, by rw [Nat.zero_add]; exact h.cell hi⟩
theorem Row2.at {w : World} {g n : Nat} {f f' : Nat → Int} (h : Row2 w g n f f') : PairsAt w (some ⟨g, 0, none⟩) n f f' :=
  fun i hi => ⟨g, 0, rfl, by rw [Nat.zero_add]; exact h.cell0 hi, by rw [Nat.zero_add]; exact h.cell1 hi⟩

end Go.Proofs.Qxb6003473a
