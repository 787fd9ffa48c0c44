/-
  'scan.zzCRD' (function 19), walked once: it lays the versions out.
-/
import Derived.Test.Qxb6602758aSmall
namespace Go.Proofs.Qxb6602758a
open Go.RowKit Go.PlainAid
set_option linter.unusedVariables false

theorem RowV.drew {w : World} {g n : Nat} {nm wn : Nat → ByteArray} {sv st dp : Nat → Bool} (h : RowV w g n nm wn sv st dp) : RowV w.drew g n nm wn sv st dp := h
theorem Box3.drew {w : World} {g : Nat} (h : Box3 w g) : Box3 w.drew g := h
theorem Box3.set {w : World} {g : Nat} (h : Box3 w g) {b : Nat} (hb : g ≠ b) (i : Nat) (v : Value) : Box3 (w.setCell ⟨b, i, none⟩ v) g := h.same (heap_set_other w (by simpa using hb))

set_option maxRecDepth 100000 in
set_option maxHeartbeats 4000000 in
theorem crd_any (gr ki : ByteArray) (no so to dpo wo : Option Addr) (n nc sc tc dc wc : Nat) (nm wn : Nat → ByteArray) (sv st dp : Nat → Bool) (w : World) (hn : n ≤ 1048576)
    (hnil : no = none → n = 0) (h1 : StrsAt w no n nm) (h2 : BoolsAt w so n sv) (h3 : BoolsAt w to n st) (h4 : BoolsAt w dpo n dp) (h5 : StrsAt w wo n wn) :
    Calls Try.prog 19 #[.string gr, .string ki, .slice no n nc, .slice so n sc, .slice to n tc, .slice dpo n dc, .slice wo n wc] w fun e w' =>
      ∃ vo, e = .returned (.agg #[.string gr, .string ki, .slice vo n n]) ∧ VersAt w' vo n nm wn sv st dp ∧ Below w.heap.size w w' := by
  have hq := neqnil22
  cases no with
  | none =>
    obtain rfl := hnil rfl
    clear hnil
    go_enter Try.func19, Try.ntmps19
    go_wp2
    go_loop [17] (fun i => i = .int .i64 0) (fun i => 1)
    case atStart => rfl
    case round =>
      obtain rfl := hrel
      go_wp2
      exact bodyPost_ret (v := .agg #[.string gr, .string ki, .slice none 0 0]) (by simp [results, Try.results19, go_sem]) rfl ⟨none, rfl, fun i hi => by omega, (Below.refl _ _).alloc (Nat.le_refl _) _⟩
  | some a =>
    clear hnil
    have hmk := make_vers n hn
    go_enter Try.func19, Try.ntmps19
    go_wp2
    go_loopw [17] (fun i wr => ∃ k : Nat, k ≤ n ∧ i = .int .i64 k ∧ RowV wr (w.heap.size + 1) n (fun j => if j < k then nm j else ⟨#[]⟩) (fun j => if j < k then wn j else ⟨#[]⟩) (fun j => if j < k then sv j else false) (fun j => if j < k then st j else false) (fun j => if j < k then dp j else false) ∧ Box3 wr w.heap.size ∧ Below w.heap.size w wr) (fun i _ => n - (intOf i).toNat)
    case atStart =>
      refine ⟨0, Nat.zero_le _, rfl, ?_, ?_, ?_⟩
      · have := RowV.new (w.alloc (.cells #[.string ⟨#[]⟩, .string ⟨#[]⟩, .slice none 0 0] 39)) n (fun _ => ⟨#[]⟩) (fun _ => ⟨#[]⟩) (fun _ => false) (fun _ => false) (fun _ => false)
        rw [World.size_alloc] at this
        exact this
      · exact ⟨_, _, _, (heap_alloc_lt _ _ (by simp)).trans (heap_alloc_new w _)⟩
      · exact ((Below.refl _ _).alloc (Nat.le_refl _) _).alloc (by simp) _
    case round =>
      obtain ⟨k, hk, rfl, hrow, hbox, hb⟩ := hrel
      by_cases hlt : k < n
      · obtain ⟨b1, o1, e1, c1⟩ := (h1.below hb) k hlt
        obtain ⟨b2, o2, e2, c2⟩ := (h2.below hb) k hlt
        obtain ⟨b3, o3, e3, c3⟩ := (h3.below hb) k hlt
        obtain ⟨b4, o4, e4, c4⟩ := (h4.below hb) k hlt
        obtain ⟨b5, o5, e5, c5⟩ := (h5.below hb) k hlt
        obtain rfl : a = ⟨b1, o1, none⟩ := by simpa using e1
        subst e2 e3 e4 e5
        clear e1
        obtain ⟨x0, r0⟩ : ∃ x, wr.cell? ⟨w.heap.size + 1, k * 6, none⟩ = some x := ⟨_, hrow.cell (r := 0) hlt (by omega)⟩
        obtain ⟨x1, r1⟩ : ∃ x, wr.cell? ⟨w.heap.size + 1, k * 6 + 1, none⟩ = some x := ⟨_, hrow.cell hlt (by omega)⟩
        obtain ⟨x2, r2⟩ : ∃ x, wr.cell? ⟨w.heap.size + 1, k * 6 + 2, none⟩ = some x := ⟨_, hrow.cell hlt (by omega)⟩
        obtain ⟨x3, r3⟩ : ∃ x, wr.cell? ⟨w.heap.size + 1, k * 6 + 3, none⟩ = some x := ⟨_, hrow.cell hlt (by omega)⟩
        obtain ⟨x4, r4⟩ : ∃ x, wr.cell? ⟨w.heap.size + 1, k * 6 + 4, none⟩ = some x := ⟨_, hrow.cell hlt (by omega)⟩
        obtain ⟨x5, r5⟩ : ∃ x, wr.cell? ⟨w.heap.size + 1, k * 6 + 5, none⟩ = some x := ⟨_, hrow.cell hlt (by omega)⟩
        have f0 := hrow.free (k * 6)
        have f1 := hrow.free (k * 6 + 1)
        have f2 := hrow.free (k * 6 + 2)
        have f3 := hrow.free (k * 6 + 3)
        have f4 := hrow.free (k * 6 + 4)
        have f5 := hrow.free (k * 6 + 5)
        have hki : (k : Int) < (n : Int) := by omega
        clear hq hmk
        go_wp2
        go_region
        all_goals go_wp2
        all_goals
          go_roundw
          case rel =>
            refine ⟨k + 1, by omega, by go_num, ?_, ?_, ?_⟩
            · refine RowV.drew (RowV.congr (hrow.set k (nm k) (wn k) (sv k) (st k) (dp k)) (fun j hj => ?_))
              by_cases h1 : j = k
              · subst h1; simp
              · by_cases h2 : j < k
                · simp [h1, h2, show j < k + 1 by omega]
                · simp [h1, h2, show ¬ j < k + 1 by omega]
            · exact Box3.drew ((((((hbox.set (by omega) _ _).set (by omega) _ _).set (by omega) _ _).set (by omega) _ _).set (by omega) _ _).set (by omega) _ _)
            · exact ((((((hb.setCell (by simp) _).setCell (by simp) _).setCell (by simp) _).setCell (by simp) _).setCell (by simp) _).setCell (by simp) _).drew
          case measure => simp [intOf]; omega
      · obtain ⟨x, y, z, hxy⟩ := hbox
        have hc0 : wr.cell? ⟨w.heap.size, 0, none⟩ = some x := by rw [cell_of_row wr _ _ _ _ _ hxy]; rfl
        have hc1 : wr.cell? ⟨w.heap.size, 1, none⟩ = some y := by rw [cell_of_row wr _ _ _ _ _ hxy]; rfl
        have hc2 : wr.cell? ⟨w.heap.size, 2, none⟩ = some z := by rw [cell_of_row wr _ _ _ _ _ hxy]; rfl
        have hf0 := frozen_of_row wr _ 0 _ _ hxy
        have hf1 := frozen_of_row wr _ 1 _ _ hxy
        have hf2 := frozen_of_row wr _ 2 _ _ hxy
        clear hq hmk h1 h2 h3 h4 h5
        go_wp2
        have e0 := fun X => World.cell?_setCell_same (v := X) wr _ hc0
        have o1 := fun X => (World.cell?_setCell_other (a := (⟨w.heap.size, 0, none⟩ : Addr)) (b := ⟨w.heap.size, 1, none⟩) (v := X) wr (by simp)).trans hc1
        have e1 := fun X Y => World.cell?_setCell_same (v := Y) _ _ (o1 X)
        have o2 := fun X Y => (World.cell?_setCell_other (a := (⟨w.heap.size, 1, none⟩ : Addr)) (b := ⟨w.heap.size, 2, none⟩) (v := Y) (wr.setCell ⟨w.heap.size, 0, none⟩ X) (by simp)).trans ((World.cell?_setCell_other (a := (⟨w.heap.size, 0, none⟩ : Addr)) (b := ⟨w.heap.size, 2, none⟩) (v := X) wr (by simp)).trans hc2)
        have e2 := fun X Y Z => World.cell?_setCell_same (v := Z) _ _ (o2 X Y)
        refine bodyPost_ret (v := .agg #[.string gr, .string ki, .slice (some ⟨w.heap.size + 1, 0, none⟩) n n]) (by simp [results, Try.results19, go_sem, e0, e1, e2]) rfl ⟨_, rfl, ?_, ?_⟩
        · have hb' : ∀ (w0 : World) (i : Nat) (v : Value), (w0.setCell ⟨w.heap.size, i, none⟩ v).heap[w.heap.size + 1]? = w0.heap[w.heap.size + 1]? := fun w0 i v => heap_set_other w0 (by simp)
          exact ((hrow.congr (fun j hj => by simp [show j < k by omega])).same ((hb' _ _ _).trans ((hb' _ _ _).trans (hb' _ _ _)))).at
        · exact ((hb.setCell (by simp) _).setCell (by simp) _).setCell (by simp) _
end Go.Proofs.Qxb6602758a
