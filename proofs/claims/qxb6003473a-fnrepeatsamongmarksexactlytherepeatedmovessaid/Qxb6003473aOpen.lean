/-
  How this seat's arguments are opened: a slice of pairs of ints (type 25), a slice of ints (type 26).
-/
import Derived.Test.Qxb6003473aMem
import Derived.Test.Qxb6003473aProg
import Derived.ProofKit
import Derived.OpenShut
import Derived.Deep.Slices
namespace Go.Proofs.Qxb6003473a
open Go.ChangeShapes Go.WideShapes Go.ChangeAt Go.RowKit Go.Deep

theorem cells3 : Try.prog.cellsOf 3 = 1 := by kernel_rfl
theorem cells28 : Try.prog.cellsOf 28 = 2 := by kernel_rfl
/-- A number of int's kind. -/
def I64 (x : Int) : Prop := -9223372036854775808 ≤ x ∧ x ≤ 9223372036854775807
theorem i64_of {x : Int} (h : (Lit.int .i64 x).wf = true) : I64 x := by
  have := bounds_i64 h
  exact this

theorem spot_none {W : World} {a : Addr} {v : Value} (h : W.cell? (a.add 0) = some v) : a = ⟨a.block, a.off, none⟩ := by
  have hs := World.cell?_spot h
  obtain ⟨b, off, spot⟩ := a
  simp [Addr.add] at hs ⊢
  exact hs
theorem add_plain' {a : Addr} (i : Nat) (h : a = ⟨a.block, a.off, none⟩) : a.add i = ⟨a.block, a.off + i, none⟩ := by
  obtain ⟨b, off, spot⟩ := a
  simp at h
  subst h
  by_cases hi : i = 0
  · subst hi; simp [Addr.add]
  · simp [Addr.add, hi]

theorem open_pairs {H : Type} {enc : TypeId × Value → H} {W : World} {ao : Option Addr} {len cap : Nat} {d : DataW H} {p : List MemPlace} (h : DataW.Trod enc Try.prog W 0 (fun _ => true) true 25 (.slice ao len cap) d p) :
    (ao = none → len = 0 ∧ cap = 0) ∧ len ≤ maxLen ∧ ∃ f g : Nat → Int, PairsAt W ao len f g ∧ ∀ i, i < len → I64 (f i) ∧ I64 (g i) := by
  obtain ⟨fuel, hf⟩ := h
  rcases open_slice Try.underlying25 hf with ⟨hcs, _⟩ | ⟨a, l, c, m, n, D, Pl, hcs, _, hl, hm, hmm, _, hx⟩
  · simp [Value.cells] at hcs
    obtain ⟨rfl, rfl, rfl⟩ := hcs
    exact ⟨fun _ => ⟨rfl, rfl⟩, Nat.zero_le _, fun _ => 0, fun _ => 0, fun i hi => by omega, fun i hi => by omega⟩
  · simp [Value.cells] at hcs
    obtain ⟨rfl, rfl, rfl⟩ := hcs
    refine ⟨(fun h => by cases h), by omega, ?_⟩
    have hsp : 0 < len → a = ⟨a.block, a.off, none⟩ := by
      intro h0
      obtain ⟨cs', h1, _⟩ := hx 0 (by simp at hmm; omega)
      rw [cells28] at h1
      obtain ⟨_, hlen, hcell⟩ := World.cells?_some h1
      match cs', hlen with
      | [v0, v1], _ =>
        have c0 := hcell 0 (by omega)
        rw [add_add] at c0
        exact spot_none (by simpa using c0)
    have each : ∀ i, i < len → ∃ q : Int × Int, (∃ b off, some a = some (⟨b, off, none⟩ : Addr) ∧ W.cell? ⟨b, off + i * 2, none⟩ = some (.int .i64 q.1) ∧ W.cell? ⟨b, off + i * 2 + 1, none⟩ = some (.int .i64 q.2)) ∧ I64 q.1 ∧ I64 q.2 := by
      intro i hi
      obtain ⟨cs', h1, h2⟩ := hx i (by simp at hmm; omega)
      rw [cells28] at h1
      obtain ⟨_, hlen, hcell⟩ := World.cells?_some h1
      obtain ⟨xs, k, hk, hxy, _, hxl, he⟩ := DataW.trod_array Try.underlying28 h2
      rw [cells3] at he
      match cs', hlen with
      | [v0, v1], _ =>
        have e0 := he 0 (by omega)
        have e1 := he 1 (by omega)
        rw [List.getElem?_eq_getElem (by omega)] at e0 e1
        simp at e0 e1
        obtain ⟨x, hx0, _, wx⟩ := DataW.trod_int Try.underlying3 e0
        obtain ⟨y, hy0, _, wy⟩ := DataW.trod_int Try.underlying3 e1
        simp at hx0 hy0
        subst hx0 hy0
        have c0 := hcell 0 (by omega)
        have c1 := hcell 1 (by omega)
        rw [add_add] at c0 c1
        simp only [Nat.add_zero, List.getElem?_cons_zero, List.getElem?_cons_succ] at c0 c1
        have p0 := hsp (by omega)
        rw [add_plain' _ p0] at c0
        rw [add_plain' _ p0] at c1
        exact ⟨(x, y), ⟨a.block, a.off, by rw [← p0], c0, by rw [Nat.add_assoc]; exact c1⟩, i64_of wx, i64_of wy⟩
    obtain ⟨q, hq⟩ := choose_lt each
    exact ⟨fun i => (q i).1, fun i => (q i).2, fun i hi => (hq i hi).1, fun i hi => (hq i hi).2⟩

theorem open_ints26 {H : Type} {enc : TypeId × Value → H} {W : World} {ao : Option Addr} {len cap : Nat} {d : DataW H} {p : List MemPlace} (h : DataW.Trod enc Try.prog W 0 (fun _ => true) true 26 (.slice ao len cap) d p) :
    (ao = none → len = 0 ∧ cap = 0) ∧ len ≤ maxLen ∧ ∃ f : Nat → Int, IntsAt W ao len f ∧ ∀ i, i < len → I64 (f i) := by
  obtain ⟨fuel, hf⟩ := h
  rcases open_ints Try.underlying26 Try.underlying3 cells3 hf with ⟨hcs, _⟩ | ⟨a, l, c, zs, hcs, _, hl, hm, hz, _, hcell, hwz⟩
  · simp [Value.cells] at hcs
    obtain ⟨rfl, rfl, rfl⟩ := hcs
    exact ⟨fun _ => ⟨rfl, rfl⟩, Nat.zero_le _, fun _ => 0, fun i hi => by omega, fun i hi => by omega⟩
  · simp [Value.cells] at hcs
    obtain ⟨rfl, rfl, rfl⟩ := hcs
    simp only [if_true] at hz
    refine ⟨(fun h => by cases h), by omega, fun i => zs.getD i 0, fun i hi => ?_, fun i hi => ?_⟩
    · have c0 := hcell i (by omega)
      have p0 := spot_none (hcell 0 (by omega))
      rw [add_plain' _ p0] at c0
      exact ⟨a.block, a.off, by rw [← p0], c0⟩
    · refine i64_of (hwz _ ?_)
      have hi' : i < zs.length := by omega
      simp [List.getD, hi']
end Go.Proofs.Qxb6003473a
