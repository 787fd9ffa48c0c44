/-
  'crd.CRD.Version' (function 22), walked once: the first version of that name.
-/
import Derived.Test.Qxb6602758aSmall
namespace Go.Proofs.Qxb6602758a
open Go.RowKit Go.PlainAid
set_option linter.unusedVariables false

theorem beq_bytes (a b : ByteArray) : (a.toList == b.toList) = true ↔ a = b := by
  rw [ByteArray.toList_eq, ByteArray.toList_eq, beq_iff_eq]
  exact ⟨WideShapes.bytes_inj, fun h => by rw [h]⟩
theorem beq_bytes_ne (a b : ByteArray) (h : a ≠ b) : (a.toList == b.toList) = false := by
  rw [← Bool.not_eq_true, beq_bytes]; exact h

/-- A version as a value. -/
def verAgg (a e : ByteArray) (b c d : Bool) : Value := .agg #[.string a, .bool b, .bool c, .bool d, .string e, .pointer none]
def VBox (w : World) (g : Nat) (a e : ByteArray) (b c d : Bool) : Prop := w.heap[g]? = some (.cells #[.string a, .bool b, .bool c, .bool d, .string e, .pointer none] 44 (0, 0))
theorem VBox.alloc {w : World} {g : Nat} {a e : ByteArray} {b c d : Bool} (h : VBox w g a e b c d) (o : Obj) : VBox (w.alloc o) g a e b c d := (heap_alloc_lt w o (Array.getElem?_eq_some_iff.1 h).1).trans h

theorem VBox.cell {w : World} {g : Nat} {a e : ByteArray} {b c d : Bool} (h : VBox w g a e b c d) :
    w.cell? ⟨g, 0, none⟩ = some (.string a) ∧ w.cell? ⟨g, 1, none⟩ = some (.bool b) ∧ w.cell? ⟨g, 2, none⟩ = some (.bool c) ∧ w.cell? ⟨g, 3, none⟩ = some (.bool d) ∧ w.cell? ⟨g, 4, none⟩ = some (.string e) ∧ w.cell? ⟨g, 5, none⟩ = some (.pointer none) := by
  refine ⟨?_, ?_, ?_, ?_, ?_, ?_⟩ <;> (rw [cell_of_row w _ _ _ _ _ h]; rfl)
theorem VBox.store {w : World} {g : Nat} {a e : ByteArray} {b c d : Bool} (h : VBox w g a e b c d) (a' e' : ByteArray) (b' c' d' : Bool) :
    VBox ((((((w.setCell ⟨g, 0, none⟩ (.string a')).setCell ⟨g, 1, none⟩ (.bool b')).setCell ⟨g, 2, none⟩ (.bool c')).setCell ⟨g, 3, none⟩ (.bool d')).setCell ⟨g, 4, none⟩ (.string e')).setCell ⟨g, 5, none⟩ (.pointer none)) g a' e' b' c' d' := by
  unfold VBox
  rw [heap_setCell_same _ g _ _ _ _ (heap_setCell_same _ g _ _ _ _ (heap_setCell_same _ g _ _ _ _ (heap_setCell_same _ g _ _ _ _ (heap_setCell_same _ g _ _ _ _ (heap_setCell_same w g _ _ _ _ h)))))]
  rfl
theorem res22 {W : World} {tmps : Array Value} {g : Nat} {a e : ByteArray} {b c d x : Bool} (hv : VBox W g a e b c d) (h4 : tmps[4]?.getD undef = .pointer (some ⟨g, 0, none⟩)) (h5 : tmps[5]?.getD undef = .bool x) :
    Sem.run Try.prog (results Try.f22 tmps) W = .ok (.tuple #[.agg #[.string a, .bool b, .bool c, .bool d, .string e, .pointer none], .bool x]) W := by
  obtain ⟨c0, c1, c2, c3, c4, c5⟩ := hv.cell
  simp [results, Try.results22, go_sem, h4, h5, c0, c1, c2, c3, c4, c5]

set_option maxRecDepth 100000 in
set_option maxHeartbeats 4000000 in
theorem version_any (gr ki v : ByteArray) (vo : Option Addr) (n : Nat) (nm wn : Nat → ByteArray) (sv st dp : Nat → Bool) (w : World) (hn : n ≤ 1048576) (hV : VersAt w vo n nm wn sv st dp) :
    Calls Try.prog 22 #[.agg #[.string gr, .string ki, .slice vo n n], .string v] w fun e w' =>
      ((∃ i, i < n ∧ nm i = v ∧ (∀ j, j < i → nm j ≠ v) ∧ e = .returned (.tuple #[.agg #[.string (nm i), .bool (sv i), .bool (st i), .bool (dp i), .string (wn i), .pointer none], .bool true])) ∨
        ((∀ i, i < n → nm i ≠ v) ∧ e = .returned (.tuple #[.agg #[.string ⟨#[]⟩, .bool false, .bool false, .bool false, .string ⟨#[]⟩, .pointer none], .bool false]))) ∧ Below w.heap.size w w' := by
  go_enter Try.func22, Try.ntmps22
  go_wp2
  go_loopw [11] (fun i wr => ∃ k : Nat, k ≤ n ∧ i = .int .i64 k ∧ Hid (∀ j, j < k → nm j ≠ v) ∧ VBox wr (w.heap.size + 1) ⟨#[]⟩ ⟨#[]⟩ false false false ∧ Below w.heap.size w wr) (fun i _ => n - (intOf i).toNat)
  case atStart =>
    refine ⟨0, Nat.zero_le _, rfl, fun j hj => by omega, ?_, ((Below.refl _ _).alloc (Nat.le_refl _) _).alloc (by simp) _⟩
    have := heap_alloc_new (w.alloc (.cells #[.string gr, .string ki, .slice vo n n] 39)) (.cells #[.string ⟨#[]⟩, .bool false, .bool false, .bool false, .string ⟨#[]⟩, .pointer none] 44)
    rw [World.size_alloc] at this
    exact this
  case round =>
    obtain ⟨k, hk, rfl, HK, hvb, hb⟩ := hrel
    have hlr : w.heap.size + 1 < wr.heap.size := (Array.getElem?_eq_some_iff.1 hvb).1
    have z0 : wr.cell? ⟨w.heap.size + 1, 0, none⟩ = some (.string ⟨#[]⟩) := by rw [cell_of_row wr _ _ _ _ _ hvb]; rfl
    have z1 : wr.cell? ⟨w.heap.size + 1, 1, none⟩ = some (.bool false) := by rw [cell_of_row wr _ _ _ _ _ hvb]; rfl
    have z2 : wr.cell? ⟨w.heap.size + 1, 2, none⟩ = some (.bool false) := by rw [cell_of_row wr _ _ _ _ _ hvb]; rfl
    have z3 : wr.cell? ⟨w.heap.size + 1, 3, none⟩ = some (.bool false) := by rw [cell_of_row wr _ _ _ _ _ hvb]; rfl
    have z4 : wr.cell? ⟨w.heap.size + 1, 4, none⟩ = some (.string ⟨#[]⟩) := by rw [cell_of_row wr _ _ _ _ _ hvb]; rfl
    have z5 : wr.cell? ⟨w.heap.size + 1, 5, none⟩ = some (.pointer none) := by rw [cell_of_row wr _ _ _ _ _ hvb]; rfl
    have y0 := frozen_of_row wr _ 0 _ _ hvb
    have y1 := frozen_of_row wr _ 1 _ _ hvb
    have y2 := frozen_of_row wr _ 2 _ _ hvb
    have y3 := frozen_of_row wr _ 3 _ _ hvb
    have y4 := frozen_of_row wr _ 4 _ _ hvb
    have y5 := frozen_of_row wr _ 5 _ _ hvb
    by_cases hlt : k < n
    · obtain ⟨g, e, hg, c0, c1, c2, c3, c4, c5⟩ := (hV.below hb).six hlt
      subst e
      by_cases hv : nm k = v
      · have ht : ((nm k).toList == v.toList) = true := (beq_bytes _ _).2 hv
        have HV := Hid.mkk hv
        clear hv hV
        go_wp2
        refine bodyPost_ret (res22 ((hvb.store (nm k) (wn k) (sv k) (st k) (dp k)).alloc _) rfl rfl) rfl ⟨.inl ⟨k, hlt, HV.out, HK.out, rfl⟩, ?_⟩
        exact ((((((hb.setCell (by simp) _).setCell (by simp) _).setCell (by simp) _).setCell (by simp) _).setCell (by simp) _).setCell (by simp) _).alloc (by simpa using hb.size) _
      · have ht : ((nm k).toList == v.toList) = false := beq_bytes_ne _ _ hv
        have HV := Hid.mkk hv
        clear hv
        go_wp2
        go_roundw
        case rel => exact ⟨k + 1, by omega, by go_num, (fun j hj => by
          by_cases e : j = k
          · subst e; exact HV.out
          · exact HK.out j (by omega)), hvb.alloc _, hb.alloc hb.size _⟩
        case measure => simp [intOf]; omega
    · clear hV
      go_wp2
      refine bodyPost_ret (res22 (hvb.store ⟨#[]⟩ ⟨#[]⟩ false false false) rfl rfl) rfl ⟨.inr ⟨fun i hi => HK.out i (by omega), rfl⟩, ?_⟩
      exact ((((((hb.setCell (by simp) _).setCell (by simp) _).setCell (by simp) _).setCell (by simp) _).setCell (by simp) _).setCell (by simp) _)
end Go.Proofs.Qxb6602758a
