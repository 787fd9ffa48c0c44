/-
  What stands behind a call of ZZRepeatsAmong: all old blocks but the marks; the contract once more in that word.
-/
import Derived.Test.Qxb6003473aRepeats
import Derived.Test.Qxb6003473aPlaces
namespace Go.Proofs.Qxb6003473a
open Go.RowKit Go.PlainAid
set_option linter.unusedVariables false

/-- w' is w with new blocks, and with writes to block gp alone. -/
structure Apart (gp : Nat) (w w' : World) : Prop where
  os : w'.os = w.os
  tape : w'.tape = w.tape
  output : w'.output = w.output
  size : w.heap.size ≤ w'.heap.size
  block : ∀ k, k < w.heap.size → k ≠ gp → w'.heap[k]? = w.heap[k]?

theorem Apart.below {gp : Nat} {w w' : World} (h : Apart gp w w') {B : Nat} (h1 : B ≤ gp) (h2 : B ≤ w.heap.size) : Below B w w' :=
  ⟨h.os, h.tape, h.output, h.size, fun k hk => h.block k (by omega) (by omega)⟩
theorem PairsAt.apart {w w' : World} {gp nr : Nat} {rep0 : Nat → Bool} {mo : Option Addr} {n : Nat} {f g : Nat → Int} (hp : PairsAt w mo n f g) (hr : RowB w gp nr rep0) (h : Apart gp w w') : PairsAt w' mo n f g := by
  intro i hi
  obtain ⟨b, off, e, h1, h2⟩ := hp i hi
  have hb := h.block b (block_lt_of_cell h1) (not_marks hr h1)
  exact ⟨b, off, e, (World.cell?_of_block (a := ⟨b, off + i * 2, none⟩) hb).trans h1, (World.cell?_of_block (a := ⟨b, off + i * 2 + 1, none⟩) hb).trans h2⟩
theorem IntsAt.apart {w w' : World} {gp nr : Nat} {rep0 : Nat → Bool} {mo : Option Addr} {n : Nat} {f : Nat → Int} (hp : IntsAt w mo n f) (hr : RowB w gp nr rep0) (h : Apart gp w w') : IntsAt w' mo n f := by
  intro i hi
  obtain ⟨b, off, e, h1⟩ := hp i hi
  have hb := h.block b (block_lt_of_cell h1) (not_marks hr h1)
  exact ⟨b, off, e, (World.cell?_of_block (a := ⟨b, off + i, none⟩) hb).trans h1⟩
theorem Row.apart {w w' : World} {gp nr : Nat} {rep0 : Nat → Bool} {g n : Nat} {f : Nat → Int} (hp : Row w g n f) (hr : RowB w gp nr rep0) (h : Apart gp w w') : Row w' g n f := by
  refine hp.same (h.block g hp.lt ?_)
  rintro rfl
  unfold Row at hp
  unfold RowB at hr
  rw [hp] at hr
  simp at hr
theorem RowB.apart {w w' : World} {gp : Nat} {g n : Nat} {f : Nat → Bool} (hp : RowB w g n f) (hne : g ≠ gp) (h : Apart gp w w') : RowB w' g n f := hp.same (h.block g hp.lt hne)

/-- The order that a slice gives, as a function on places. -/
def mvOf (oo : Option Addr) (o : Nat → Int) (i : Nat) : Nat := (atOf oo.isNone o (i : Int)).toNat

theorem zzRepeats (mo oo sa : Option Addr) (n mc m oc sn sc lo hi gp N : Nat) (lo' hi' : Int) (f g o : Nat → Int) (rep0 : Nat → Bool) (w : World)
    (e1 : lo' = (lo : Int)) (e2 : hi' = (hi : Int)) (hN : N ≤ 65536) (hlo : lo ≤ hi) (hhi : hi ≤ n) (hn : n ≤ 65536)
    (hp : PairsAt w mo n f g) (hI : IntsAt w oo m o) (hr0 : RowB w gp n rep0) (hm : oo.isNone = false → m = n)
    (hK : ∀ j, j < n → InR f N j ∧ InR g N j) (hd : ∀ j, j < n → atOf oo.isNone o (pos f n j : Nat) = j) :
    Calls Try.prog 23 #[.slice mo n mc, .slice oo m oc, .slice sa sn sc, .int .i64 lo', .int .i64 hi', .slice (some ⟨gp, 0, none⟩) n n, .int .i64 (N : Int)] w fun e w' =>
      e = .returned (.tuple #[]) ∧ ∃ rep, RowB w' gp n rep ∧ (∀ x, x < n → (rep x = true ↔ RepP rep0 (mvOf oo o) (fun i => f (mvOf oo o i)) (fun i => g (mvOf oo o i)) lo hi x)) ∧ Apart gp w w' := by
  subst e1 e2
  have hpl : Placed f N n (mvOf oo o) := ⟨fun j hj => (hK j hj).1, fun j hj => by unfold mvOf; rw [hd j hj]; simp⟩
  have hat : ∀ i, i < n → atOf oo.isNone o (i : Int) = (mvOf oo o i : Int) := by
    intro i hi
    obtain ⟨h1, h2⟩ := hpl.at hi
    have := hd _ h1
    rw [h2] at this
    exact this
  refine (zzRepeats_any mo oo sa n mc m oc sn sc lo hi gp n N f g o (mvOf oo o) rep0 _ _ w hN hlo (by omega) hn hn hp hI hr0
    (fun i hi' => ⟨fun h => by rw [hm h]; omega, hat i (by omega), (hpl.at (by omega)).1, (hpl.at (by omega)).1⟩)
    (fun i hi' => ⟨rfl, rfl, (hK _ (hpl.at (i := i) (by omega)).1).1.1, (hK _ (hpl.at (i := i) (by omega)).1).2.1, (hK _ (hpl.at (i := i) (by omega)).1).2.2⟩)).mono ?_
  rintro e w' ⟨rfl, rep, h1, h2, h3, h4, h5, h6, h7⟩
  exact ⟨rfl, rep, h1, h2, h3, h4, h5, h6, h7⟩
end Go.Proofs.Qxb6003473a
