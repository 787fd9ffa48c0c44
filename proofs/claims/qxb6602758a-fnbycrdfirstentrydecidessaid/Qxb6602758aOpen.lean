/-
  How this seat's arguments are opened: a slice of strings (type 22), a slice of bools (type 23).
-/
import Derived.Test.Qxb6602758aMem
import Derived.Test.Qxb6602758aProg
import Derived.ProofKit
import Derived.OpenShut
import Derived.Deep.Slices
import Derived.SliceStrings
namespace Go.Proofs.Qxb6602758a
open Go.ChangeShapes Go.WideShapes Go.ChangeAt Go.RowKit Go.Deep

theorem cells9 : Try.prog.cellsOf 9 = 1 := by kernel_rfl
theorem cells4 : Try.prog.cellsOf 4 = 1 := by kernel_rfl

theorem spot_none {W : World} {a : Addr} {v : Value} (h : W.cell? (a.add 0) = some v) : a = ⟨a.block, a.off, none⟩ := by
  have hs := World.cell?_spot h
  obtain ⟨b, off, spot⟩ := a
  simp [Addr.add] at hs ⊢
  exact hs
theorem add_plain' {a : Addr} (i : Nat) (h : a = ⟨a.block, a.off, none⟩) : a.add i = ⟨a.block, a.off + i, none⟩ := by
  obtain ⟨b, off, spot⟩ := a
  simp at h
  subst h
  by_cases hi : i = 0
  · subst hi; simp [Addr.add]
  · simp [Addr.add, hi]

theorem open_strs22 {H : Type} {enc : TypeId × Value → H} {W : World} {ao : Option Addr} {len cap : Nat} {d : DataW H} {p : List MemPlace} (h : DataW.Trod enc Try.prog W 0 (fun _ => true) true 22 (.slice ao len cap) d p) :
    (ao = none → len = 0) ∧ len ≤ maxLen ∧ ∃ f : Nat → ByteArray, StrsAt W ao len f ∧ ∀ i, i < len → (f i).size ≤ maxLen := by
  obtain ⟨fuel, hf⟩ := h
  rcases open_strings Try.underlying22 Try.underlying9 cells9 hf with ⟨hcs, _⟩ | ⟨a, l, c, zs, hcs, _, hl, hm, hz, _, hcell, hwz⟩
  · simp [Value.cells] at hcs
    obtain ⟨rfl, rfl, rfl⟩ := hcs
    exact ⟨fun _ => rfl, Nat.zero_le _, fun _ => ByteArray.empty, fun i hi => by omega, fun i hi => by omega⟩
  · simp [Value.cells] at hcs
    obtain ⟨rfl, rfl, rfl⟩ := hcs
    simp only [if_true] at hz
    refine ⟨(fun h => by cases h), by omega, fun i => zs.getD i ByteArray.empty, fun i hi => ?_, fun i hi => ?_⟩
    · have c0 := hcell i (by omega)
      have p0 := spot_none (hcell 0 (by omega))
      rw [add_plain' _ p0] at c0
      exact ⟨a.block, a.off, by rw [← p0], c0⟩
    · refine hwz _ ?_
      have hi' : i < zs.length := by omega
      simp [List.getD, hi']

theorem open_bools23 {H : Type} {enc : TypeId × Value → H} {W : World} {ao : Option Addr} {len cap : Nat} {d : DataW H} {p : List MemPlace} (h : DataW.Trod enc Try.prog W 0 (fun _ => true) true 23 (.slice ao len cap) d p) :
    (ao = none → len = 0) ∧ len ≤ maxLen ∧ ∃ f : Nat → Bool, BoolsAt W ao len f := by
  obtain ⟨fuel, hf⟩ := h
  rcases open_slice1 Try.underlying23 cells4 hf with ⟨hcs, _⟩ | ⟨a, l, c, m, n, V, D, Pl, hcs, _, hl, hm, hmm, _, hx⟩
  · simp [Value.cells] at hcs
    obtain ⟨rfl, rfl, rfl⟩ := hcs
    exact ⟨fun _ => rfl, Nat.zero_le _, fun _ => false, fun i hi => by omega⟩
  · simp [Value.cells] at hcs
    obtain ⟨rfl, rfl, rfl⟩ := hcs
    simp only [if_true] at hmm
    refine ⟨(fun h => by cases h), by omega, ?_⟩
    have each : ∀ i, i < len → ∃ b : Bool, W.cell? (a.add i) = some (.bool b) := by
      intro i hi
      obtain ⟨c1, c2⟩ := hx i (by omega)
      obtain ⟨b, hb, _⟩ := DataW.trod_bool Try.underlying4 c2
      simp at hb
      rw [hb] at c1
      exact ⟨b, c1⟩
    obtain ⟨q, hq⟩ := choose_lt each
    refine ⟨q, fun i hi => ?_⟩
    have c0 := hq i hi
    have p0 := spot_none (hq 0 (by omega))
    rw [add_plain' _ p0] at c0
    exact ⟨a.block, a.off, by rw [← p0], c0⟩
end Go.Proofs.Qxb6602758a
