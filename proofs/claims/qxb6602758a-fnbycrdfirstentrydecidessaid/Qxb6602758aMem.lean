/-
  MEMORY, as the walks of this seat speak of it: blocks of the call's own that hold strings, bools or versions, each by index functions; slices that can be read.
-/
import Derived.WalkKit
namespace Go.Proofs.Qxb6602758a
open Go.RowKit
set_option linter.unusedVariables false

theorem Hid.mkk {p : Prop} (h : p) : Hid p := h

def strs (n : Nat) (f : Nat → ByteArray) : Array Value := ((List.range n).map fun i => Value.string (f i)).toArray
def bools (n : Nat) (f : Nat → Bool) : Array Value := ((List.range n).map fun i => Value.bool (f i)).toArray
/-- One version's six cells. -/
def vcell (nm wn : Nat → ByteArray) (sv st dp : Nat → Bool) (i r : Nat) : Value :=
  if r = 0 then .string (nm i) else if r = 1 then .bool (sv i) else if r = 2 then .bool (st i) else if r = 3 then .bool (dp i) else if r = 4 then .string (wn i) else .pointer none
def vers (n : Nat) (nm wn : Nat → ByteArray) (sv st dp : Nat → Bool) : Array Value := ((List.range (n * 6)).map fun i => vcell nm wn sv st dp (i / 6) (i % 6)).toArray

def RowS (w : World) (g n : Nat) (f : Nat → ByteArray) : Prop := w.heap[g]? = some (.cells (strs n f) 9 (0, 0))
def RowB (w : World) (g n : Nat) (f : Nat → Bool) : Prop := w.heap[g]? = some (.cells (bools n f) 4 (0, 0))
def RowV (w : World) (g n : Nat) (nm wn : Nat → ByteArray) (sv st dp : Nat → Bool) : Prop := w.heap[g]? = some (.cells (vers n nm wn sv st dp) 44 (0, 0))

theorem set_range {α : Type} (m i : Nat) (p : Nat → α) (x : α) : ((List.range m).map p).toArray.setIfInBounds i x = ((List.range m).map fun j => if j = i then x else p j).toArray := by
  apply Array.ext
  · simp
  · intro j h1 h2
    simp only [List.getElem_toArray, List.getElem_map, List.getElem_range]
    by_cases hj : i = j
    · subst hj; simp
    · have hj' : ¬ j = i := fun e => hj e.symm
      simp [hj, hj']
theorem heap_set_other (w : World) {a : Addr} {v : Value} {g : Nat} (h : g ≠ a.block) : (w.setCell a v).heap[g]? = w.heap[g]? := heap_setCell_other w a g v h
theorem heap_alloc_lt (w : World) (o : Obj) {g : Nat} (h : g < w.heap.size) : (w.alloc o).heap[g]? = w.heap[g]? := Below.heap_alloc w o g h

section
variable {w w' : World} {g n : Nat}
theorem RowS.cell {f : Nat → ByteArray} (h : RowS w g n f) {i : Nat} (hi : i < n) : w.cell? ⟨g, i, none⟩ = some (.string (f i)) := by
  rw [cell_of_row w g i _ _ _ h]; simp [strs, hi]
theorem RowB.cell {f : Nat → Bool} (h : RowB w g n f) {i : Nat} (hi : i < n) : w.cell? ⟨g, i, none⟩ = some (.bool (f i)) := by
  rw [cell_of_row w g i _ _ _ h]; simp [bools, hi]
theorem RowV.cell {nm wn : Nat → ByteArray} {sv st dp : Nat → Bool} (h : RowV w g n nm wn sv st dp) {i r : Nat} (hi : i < n) (hr : r < 6) : w.cell? ⟨g, i * 6 + r, none⟩ = some (vcell nm wn sv st dp i r) := by
  have h1 : i * 6 + r < n * 6 := by omega
  have h2 : (i * 6 + r) % 6 = r := by omega
  have h3 : (i * 6 + r) / 6 = i := by omega
  rw [cell_of_row w g _ _ _ _ h]; simp [vers, h1, h2, h3]
theorem RowS.free {f : Nat → ByteArray} (h : RowS w g n f) (i : Nat) : w.frozen? ⟨g, i, none⟩ = false := frozen_of_row w g i _ _ h
theorem RowB.free {f : Nat → Bool} (h : RowB w g n f) (i : Nat) : w.frozen? ⟨g, i, none⟩ = false := frozen_of_row w g i _ _ h
theorem RowV.free {nm wn : Nat → ByteArray} {sv st dp : Nat → Bool} (h : RowV w g n nm wn sv st dp) (i : Nat) : w.frozen? ⟨g, i, none⟩ = false := frozen_of_row w g i _ _ h
theorem RowV.lt {nm wn : Nat → ByteArray} {sv st dp : Nat → Bool} (h : RowV w g n nm wn sv st dp) : g < w.heap.size := (Array.getElem?_eq_some_iff.1 h).1
theorem RowV.same {nm wn : Nat → ByteArray} {sv st dp : Nat → Bool} (h : RowV w g n nm wn sv st dp) (hb : w'.heap[g]? = w.heap[g]?) : RowV w' g n nm wn sv st dp := hb.trans h

theorem RowS.congr {f f' : Nat → ByteArray} (h : RowS w g n f) (e : ∀ i, i < n → f i = f' i) : RowS w g n f' := by
  have : strs n f = strs n f' := by unfold strs; rw [List.map_congr_left (fun i hi => by rw [e i (List.mem_range.1 hi)])]
  unfold RowS at h ⊢; rw [← this]; exact h
theorem RowB.congr {f f' : Nat → Bool} (h : RowB w g n f) (e : ∀ i, i < n → f i = f' i) : RowB w g n f' := by
  have : bools n f = bools n f' := by unfold bools; rw [List.map_congr_left (fun i hi => by rw [e i (List.mem_range.1 hi)])]
  unfold RowB at h ⊢; rw [← this]; exact h
theorem vcell_congr {nm wn nm' wn' : Nat → ByteArray} {sv st dp sv' st' dp' : Nat → Bool} {i r : Nat} (h : nm i = nm' i ∧ wn i = wn' i ∧ sv i = sv' i ∧ st i = st' i ∧ dp i = dp' i) : vcell nm wn sv st dp i r = vcell nm' wn' sv' st' dp' i r := by
  unfold vcell; rw [h.1, h.2.1, h.2.2.1, h.2.2.2.1, h.2.2.2.2]
theorem RowV.congr {nm wn nm' wn' : Nat → ByteArray} {sv st dp sv' st' dp' : Nat → Bool} (h : RowV w g n nm wn sv st dp) (e : ∀ i, i < n → nm i = nm' i ∧ wn i = wn' i ∧ sv i = sv' i ∧ st i = st' i ∧ dp i = dp' i) : RowV w g n nm' wn' sv' st' dp' := by
  have : vers n nm wn sv st dp = vers n nm' wn' sv' st' dp' := by
    unfold vers; rw [List.map_congr_left (fun i hi => by have := List.mem_range.1 hi; rw [vcell_congr (e (i / 6) (by omega))])]
  unfold RowV at h ⊢; rw [← this]; exact h

theorem RowS.set {f : Nat → ByteArray} (h : RowS w g n f) (i : Nat) (v : ByteArray) : RowS (w.setCell ⟨g, i, none⟩ (.string v)) g n (fun j => if j = i then v else f j) := by
  unfold RowS
  rw [heap_setCell_same w g i _ _ _ h]
  unfold strs
  rw [set_range]
  congr 4
  funext j
  by_cases hji : j = i <;> simp [hji]
theorem RowB.set {f : Nat → Bool} (h : RowB w g n f) (i : Nat) (v : Bool) : RowB (w.setCell ⟨g, i, none⟩ (.bool v)) g n (fun j => if j = i then v else f j) := by
  unfold RowB
  rw [heap_setCell_same w g i _ _ _ h]
  unfold bools
  rw [set_range]
  congr 4
  funext j
  by_cases hji : j = i <;> simp [hji]
/-- All six cells of version k are stored. -/
theorem RowV.set {nm wn : Nat → ByteArray} {sv st dp : Nat → Bool} (h : RowV w g n nm wn sv st dp) (k : Nat) (a e : ByteArray) (b c d : Bool) :
    RowV ((((((w.setCell ⟨g, k * 6, none⟩ (.string a)).setCell ⟨g, k * 6 + 1, none⟩ (.bool b)).setCell ⟨g, k * 6 + 2, none⟩ (.bool c)).setCell ⟨g, k * 6 + 3, none⟩ (.bool d)).setCell ⟨g, k * 6 + 4, none⟩ (.string e)).setCell ⟨g, k * 6 + 5, none⟩ (.pointer none)) g n
      (fun j => if j = k then a else nm j) (fun j => if j = k then e else wn j) (fun j => if j = k then b else sv j) (fun j => if j = k then c else st j) (fun j => if j = k then d else dp j) := by
  unfold RowV
  rw [heap_setCell_same _ g _ _ _ _ (heap_setCell_same _ g _ _ _ _ (heap_setCell_same _ g _ _ _ _ (heap_setCell_same _ g _ _ _ _ (heap_setCell_same _ g _ _ _ _ (heap_setCell_same w g _ _ _ _ h)))))]
  unfold vers
  rw [set_range, set_range, set_range, set_range, set_range, set_range]
  congr 4
  funext j
  by_cases e1 : j / 6 = k
  · have hr : j = k * 6 + j % 6 := by omega
    have hlt : j % 6 < 6 := Nat.mod_lt _ (by decide)
    generalize j % 6 = r at hr hlt
    subst hr
    have : r = 0 ∨ r = 1 ∨ r = 2 ∨ r = 3 ∨ r = 4 ∨ r = 5 := by omega
    rcases this with rfl | rfl | rfl | rfl | rfl | rfl <;> simp [vcell, e1]
  · have n0 : ¬ j = k * 6 := by omega
    have n1 : ¬ j = k * 6 + 1 := by omega
    have n2 : ¬ j = k * 6 + 2 := by omega
    have n3 : ¬ j = k * 6 + 3 := by omega
    have n4 : ¬ j = k * 6 + 4 := by omega
    have n5 : ¬ j = k * 6 + 5 := by omega
    simp [n0, n1, n2, n3, n4, n5, vcell, e1]

theorem RowS.new (w : World) (n : Nat) (f : Nat → ByteArray) : RowS (w.alloc (.cells (strs n f) 9)) w.heap.size n f := heap_alloc_new w _
theorem RowB.new (w : World) (n : Nat) (f : Nat → Bool) : RowB (w.alloc (.cells (bools n f) 4)) w.heap.size n f := heap_alloc_new w _
theorem RowV.new (w : World) (n : Nat) (nm wn : Nat → ByteArray) (sv st dp : Nat → Bool) : RowV (w.alloc (.cells (vers n nm wn sv st dp) 44)) w.heap.size n nm wn sv st dp := heap_alloc_new w _
end

/-! ### Slices that can be read -/
def StrsAt (w : World) (ao : Option Addr) (n : Nat) (f : Nat → ByteArray) : Prop :=
  ∀ i, i < n → ∃ b off, ao = some ⟨b, off, none⟩ ∧ w.cell? ⟨b, off + i, none⟩ = some (.string (f i))
def BoolsAt (w : World) (ao : Option Addr) (n : Nat) (f : Nat → Bool) : Prop :=
  ∀ i, i < n → ∃ b off, ao = some ⟨b, off, none⟩ ∧ w.cell? ⟨b, off + i, none⟩ = some (.bool (f i))
def VersAt (w : World) (ao : Option Addr) (n : Nat) (nm wn : Nat → ByteArray) (sv st dp : Nat → Bool) : Prop :=
  ∀ i, i < n → ∃ g, ao = some ⟨g, 0, none⟩ ∧ g < w.heap.size ∧ ∀ r, r < 6 → w.cell? ⟨g, i * 6 + r, none⟩ = some (vcell nm wn sv st dp i r)

theorem StrsAt.below {w w' : World} {ao : Option Addr} {n : Nat} {f : Nat → ByteArray} (h : StrsAt w ao n f) (hb : Below w.heap.size w w') : StrsAt w' ao n f := by
  intro i hi
  obtain ⟨b, off, e, hc⟩ := h i hi
  exact ⟨b, off, e, (hb.cell (p := ⟨b, off + i, none⟩) (block_lt_of_cell hc)).trans hc⟩
theorem BoolsAt.below {w w' : World} {ao : Option Addr} {n : Nat} {f : Nat → Bool} (h : BoolsAt w ao n f) (hb : Below w.heap.size w w') : BoolsAt w' ao n f := by
  intro i hi
  obtain ⟨b, off, e, hc⟩ := h i hi
  exact ⟨b, off, e, (hb.cell (p := ⟨b, off + i, none⟩) (block_lt_of_cell hc)).trans hc⟩
theorem VersAt.below {w w' : World} {ao : Option Addr} {n : Nat} {nm wn : Nat → ByteArray} {sv st dp : Nat → Bool} (h : VersAt w ao n nm wn sv st dp) (hb : Below w.heap.size w w') : VersAt w' ao n nm wn sv st dp := by
  intro i hi
  obtain ⟨g, e, hg, hc⟩ := h i hi
  exact ⟨g, e, Nat.lt_of_lt_of_le hg hb.size, fun r hr => (hb.cell (p := ⟨g, i * 6 + r, none⟩) hg).trans (hc r hr)⟩
theorem RowS.at {w : World} {g n : Nat} {f : Nat → ByteArray} (h : RowS w g n f) : StrsAt w (some ⟨g, 0, none⟩) n f := fun i hi => ⟨g, 0, rfl, by rw [Nat.zero_add]; exact h.cell hi⟩
theorem RowB.at {w : World} {g n : Nat} {f : Nat → Bool} (h : RowB w g n f) : BoolsAt w (some ⟨g, 0, none⟩) n f := fun i hi => ⟨g, 0, rfl, by rw [Nat.zero_add]; exact h.cell hi⟩
theorem RowV.at {w : World} {g n : Nat} {nm wn : Nat → ByteArray} {sv st dp : Nat → Bool} (h : RowV w g n nm wn sv st dp) : VersAt w (some ⟨g, 0, none⟩) n nm wn sv st dp := fun i hi => ⟨g, rfl, h.lt, fun r hr => h.cell hi hr⟩
/-- The six cells, written out. -/
theorem VersAt.six {w : World} {ao : Option Addr} {n : Nat} {nm wn : Nat → ByteArray} {sv st dp : Nat → Bool} (h : VersAt w ao n nm wn sv st dp) {i : Nat} (hi : i < n) : ∃ g, ao = some ⟨g, 0, none⟩ ∧ g < w.heap.size ∧
    w.cell? ⟨g, i * 6, none⟩ = some (.string (nm i)) ∧ w.cell? ⟨g, i * 6 + 1, none⟩ = some (.bool (sv i)) ∧ w.cell? ⟨g, i * 6 + 2, none⟩ = some (.bool (st i)) ∧ w.cell? ⟨g, i * 6 + 3, none⟩ = some (.bool (dp i)) ∧
    w.cell? ⟨g, i * 6 + 4, none⟩ = some (.string (wn i)) ∧ w.cell? ⟨g, i * 6 + 5, none⟩ = some (.pointer none) := by
  obtain ⟨g, e, hg, hc⟩ := h i hi
  exact ⟨g, e, hg, hc 0 (by omega), hc 1 (by omega), hc 2 (by omega), hc 3 (by omega), hc 4 (by omega), hc 5 (by omega)⟩

/-! ### The box of a struct of three cells that a function hands back -/
def Box3 (w : World) (g : Nat) : Prop := ∃ x y z, w.heap[g]? = some (.cells #[x, y, z] 39 (0, 0))
theorem Box3.same {w w' : World} {g : Nat} (h : Box3 w g) (hb : w'.heap[g]? = w.heap[g]?) : Box3 w' g := by
  obtain ⟨x, y, z, h⟩ := h
  exact ⟨x, y, z, hb.trans h⟩
theorem Box3.lt {w : World} {g : Nat} (h : Box3 w g) : g < w.heap.size := by
  obtain ⟨x, y, z, h⟩ := h
  exact (Array.getElem?_eq_some_iff.1 h).1
end Go.Proofs.Qxb6602758a
