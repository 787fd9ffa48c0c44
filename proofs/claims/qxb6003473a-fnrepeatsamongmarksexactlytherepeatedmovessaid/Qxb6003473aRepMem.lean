/-
  The memory of 'repeatsAmong' while it runs: the caller's marks, the struct's box, the set, the run of moves read ahead.
-/
import Derived.Test.Qxb6003473aSet
import Derived.Test.Qxb6003473aRep
namespace Go.Proofs.Qxb6003473a
open Go.RowKit Go.PlainAid
set_option linter.unusedVariables false

theorem pairs_set (n : Nat) (f f' : Nat → Int) (k : Nat) (x y : Int) : ((pairs n f f').setIfInBounds (k * 2) (.int .i64 x)).setIfInBounds (k * 2 + 1) (.int .i64 y) = pairs n (fun j => if j = k then x else f j) (fun j => if j = k then y else f' j) := by
  unfold pairs
  rw [set_range, set_range]
  congr 2
  funext j
  by_cases h1 : j = k * 2 + 1
  · have a1 : (k * 2 + 1) % 2 = 1 := by omega
    have a2 : (k * 2 + 1) / 2 = k := by omega
    subst h1; simp [a1, a2]
  · by_cases h2 : j = k * 2
    · have a1 : k * 2 % 2 = 0 := by omega
      have a2 : k * 2 / 2 = k := by omega
      subst h2; simp [a1, a2]
    · simp only [h1, h2, if_false]
      by_cases h3 : j % 2 = 0
      · have : ¬ j / 2 = k := by omega
        simp [h3, this]
      · have : ¬ j / 2 = k := by omega
        simp [h3, this]

structure RM (w wr : World) (gp nr : Nat) (rep : Nat → Bool) (nw : Nat) (P : Nat → Prop) (rf rg : Nat → Int) (ov sv : Value) : Prop where
  os : wr.os = w.os
  tape : wr.tape = w.tape
  output : wr.output = w.output
  size : w.heap.size + 1 + 1 < wr.heap.size
  old : ∀ k, k < w.heap.size → k ≠ gp → wr.heap[k]? = w.heap[k]?
  gpl : gp < w.heap.size
  gbox : wr.heap[w.heap.size]? = some (.cells #[ov, sv] 41 (0, 0))
  set : SetAt wr (w.heap.size + 1) nw P
  run : wr.heap[w.heap.size + 1 + 1]? = some (.cells (pairs 256 rf rg) 52 (0, 0))
  rep : RowB wr gp nr rep

section
variable {w wr w' : World} {gp nr : Nat} {rep : Nat → Bool} {nw : Nat} {P : Nat → Prop} {rf rg : Nat → Int} {ov sv : Value}

theorem RM.grow (h : RM w wr gp nr rep nw P rf rg ov sv) (e1 : w'.os = wr.os) (e2 : w'.tape = wr.tape) (e3 : w'.output = wr.output) (e4 : wr.heap.size ≤ w'.heap.size)
    (hb : ∀ k, k < wr.heap.size → w'.heap[k]? = wr.heap[k]?) : RM w w' gp nr rep nw P rf rg ov sv := by
  have hs := h.size
  have hg := h.gpl
  exact ⟨e1.trans h.os, e2.trans h.tape, e3.trans h.output, by omega, fun k h1 h2 => (hb k (by omega)).trans (h.old k h1 h2), hg, (hb _ (by omega)).trans h.gbox,
    h.set.same (hb _ (by omega)), (hb _ (by omega)).trans h.run, h.rep.same (hb _ (by omega))⟩
theorem RM.alloc (h : RM w wr gp nr rep nw P rf rg ov sv) (o : Obj) : RM w (wr.alloc o) gp nr rep nw P rf rg ov sv :=
  h.grow rfl rfl rfl (by simp) (fun k hk => heap_alloc_lt wr o hk)
theorem RM.drewN (h : RM w wr gp nr rep nw P rf rg ov sv) (q : Nat) : RM w (wr.drewN q) gp nr rep nw P rf rg ov sv :=
  h.grow rfl rfl rfl (Nat.le_refl _) (fun k hk => rfl)
theorem RM.touch {P' : Nat → Prop} (h : RM w wr gp nr rep nw P rf rg ov sv) (ht : Touch (w.heap.size + 1) wr w') (hs : SetAt w' (w.heap.size + 1) nw P') : RM w w' gp nr rep nw P' rf rg ov sv := by
  have hsz := h.size
  have hg := h.gpl
  exact ⟨ht.os.trans h.os, ht.tape.trans h.tape, ht.output.trans h.output, by rw [ht.size]; exact hsz, fun k h1 h2 => (ht.block k (by omega)).trans (h.old k h1 h2), hg,
    (ht.block _ (by omega)).trans h.gbox, hs, (ht.block _ (by omega)).trans h.run, h.rep.same (ht.block _ (by omega))⟩
theorem RM.congr {P' : Nat → Prop} (h : RM w wr gp nr rep nw P rf rg ov sv) (hp : ∀ x, x < nw * 64 → (P x ↔ P' x)) : RM w wr gp nr rep nw P' rf rg ov sv :=
  { h with set := h.set.congr hp }
theorem RM.setRun (h : RM w wr gp nr rep nw P rf rg ov sv) (k : Nat) (x y : Int) :
    RM w ((wr.setCell ⟨w.heap.size + 1 + 1, k * 2, none⟩ (.int .i64 x)).setCell ⟨w.heap.size + 1 + 1, k * 2 + 1, none⟩ (.int .i64 y)) gp nr rep nw P (fun j => if j = k then x else rf j) (fun j => if j = k then y else rg j) ov sv := by
  have hsz := h.size
  have hg := h.gpl
  have hb : ∀ j, j ≠ w.heap.size + 1 + 1 → ((wr.setCell ⟨w.heap.size + 1 + 1, k * 2, none⟩ (.int .i64 x)).setCell ⟨w.heap.size + 1 + 1, k * 2 + 1, none⟩ (.int .i64 y)).heap[j]? = wr.heap[j]? :=
    fun j hj => (heap_set_other _ (by simpa using hj)).trans (heap_set_other _ (by simpa using hj))
  refine ⟨h.os, h.tape, h.output, by simpa using hsz, fun j h1 h2 => (hb j (by omega)).trans (h.old j h1 h2), hg, (hb _ (by omega)).trans h.gbox, h.set.same (hb _ (by omega)), ?_, h.rep.same (hb _ (by omega))⟩
  rw [heap_setCell_same _ _ _ _ _ _ (heap_setCell_same wr _ _ _ _ _ h.run)]
  rw [pairs_set]
theorem RM.setRep (h : RM w wr gp nr rep nw P rf rg ov sv) (i : Nat) : RM w (wr.setCell ⟨gp, i, none⟩ (.bool true)) gp nr (fun j => if j = i then true else rep j) nw P rf rg ov sv := by
  have hsz := h.size
  have hg := h.gpl
  have hb : ∀ j, j ≠ gp → (wr.setCell ⟨gp, i, none⟩ (.bool true)).heap[j]? = wr.heap[j]? := fun j hj => heap_set_other _ (by simpa using hj)
  exact ⟨h.os, h.tape, h.output, by simpa using hsz, fun j h1 h2 => (hb j h2).trans (h.old j h1 h2), hg, (hb _ (by omega)).trans h.gbox, h.set.same (hb _ (by omega)), (hb _ (by omega)).trans h.run, h.rep.set i true⟩

theorem RM.box0 (h : RM w wr gp nr rep nw P rf rg ov sv) : wr.cell? ⟨w.heap.size, 0, none⟩ = some ov := by rw [cell_of_row wr _ _ _ _ _ h.gbox]; rfl
theorem RM.box1 (h : RM w wr gp nr rep nw P rf rg ov sv) : wr.cell? ⟨w.heap.size, 1, none⟩ = some sv := by rw [cell_of_row wr _ _ _ _ _ h.gbox]; rfl
theorem RM.run0 (h : RM w wr gp nr rep nw P rf rg ov sv) {k : Nat} (hk : k < 256) : wr.cell? ⟨w.heap.size + 1 + 1, k * 2, none⟩ = some (.int .i64 (rf k)) := by
  have h1 : k * 2 < 256 * 2 := by omega
  have h2 : k * 2 % 2 = 0 := by omega
  have h3 : k * 2 / 2 = k := by omega
  rw [cell_of_row wr _ _ _ _ _ h.run]; simp [pairs, h1, h2, h3]
theorem RM.run1 (h : RM w wr gp nr rep nw P rf rg ov sv) {k : Nat} (hk : k < 256) : wr.cell? ⟨w.heap.size + 1 + 1, k * 2 + 1, none⟩ = some (.int .i64 (rg k)) := by
  have h1 : k * 2 + 1 < 256 * 2 := by omega
  have h2 : (k * 2 + 1) % 2 = 1 := by omega
  have h3 : (k * 2 + 1) / 2 = k := by omega
  rw [cell_of_row wr _ _ _ _ _ h.run]; simp [pairs, h1, h2, h3]
theorem RM.runFree (h : RM w wr gp nr rep nw P rf rg ov sv) (i : Nat) : wr.frozen? ⟨w.heap.size + 1 + 1, i, none⟩ = false := frozen_of_row wr _ i _ _ h.run

/-- A cell that holds an int does not lie among the marks. -/
theorem not_marks {rep0 : Nat → Bool} (hr : RowB w gp nr rep0) {b i : Nat} {x : Int} (hc : w.cell? ⟨b, i, none⟩ = some (.int .i64 x)) : b ≠ gp := by
  rintro rfl
  rw [cell_of_row w _ _ _ _ _ hr] at hc
  simp [bools] at hc
theorem PairsAt.rm {rep0 : Nat → Bool} {mo : Option Addr} {n : Nat} {f g : Nat → Int} (hp : PairsAt w mo n f g) (hr : RowB w gp nr rep0) (h : RM w wr gp nr rep nw P rf rg ov sv) : PairsAt wr mo n f g := by
  intro i hi
  obtain ⟨b, off, e, h1, h2⟩ := hp i hi
  have hb := h.old b (block_lt_of_cell h1) (not_marks hr h1)
  exact ⟨b, off, e, (World.cell?_of_block (a := ⟨b, off + i * 2, none⟩) hb).trans h1, (World.cell?_of_block (a := ⟨b, off + i * 2 + 1, none⟩) hb).trans h2⟩
theorem IntsAt.rm {rep0 : Nat → Bool} {mo : Option Addr} {n : Nat} {f : Nat → Int} (hp : IntsAt w mo n f) (hr : RowB w gp nr rep0) (h : RM w wr gp nr rep nw P rf rg ov sv) : IntsAt wr mo n f := by
  intro i hi
  obtain ⟨b, off, e, h1⟩ := hp i hi
  have hb := h.old b (block_lt_of_cell h1) (not_marks hr h1)
  exact ⟨b, off, e, (World.cell?_of_block (a := ⟨b, off + i, none⟩) hb).trans h1⟩
end
end Go.Proofs.Qxb6003473a
