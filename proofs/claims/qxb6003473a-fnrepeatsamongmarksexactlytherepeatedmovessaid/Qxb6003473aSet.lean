/-
  'lists.indexSet': a set of indices as bits in a row of words. newIndexSet (31), remove (33), has (34), add (35) walked once; movesByState.move (32).
-/
import Derived.Test.Qxb6003473aSmall
import Derived.RegionTactic
import Derived.ChangeAlike
import Derived.BigRegion
namespace Go.Proofs.Qxb6003473a
open Go.RowKit Go.PlainAid
set_option linter.unusedVariables false

/-! ### Words -/
theorem ofInt_word (v : BitVec 64) : BitVec.ofInt 64 (v.toNat : Int) = v := by
  rw [BitVec.ofInt_natCast, BitVec.ofNat_toNat, BitVec.setWidth_eq]
theorem ofInt_mask (r : Nat) (hr : r < 64) : BitVec.ofInt 64 (IntKind.u64.wrap (2 ^ r)) = BitVec.twoPow 64 r := by
  have h1 : (2 : Int) ^ r = ((2 ^ r : Nat) : Int) := by simp
  have h2 : 2 ^ r < 2 ^ 64 := Nat.pow_lt_pow_right (by decide) hr
  have h3 : ∀ m : Nat, m < 2 ^ 64 → (m : Int) % 18446744073709551616 = (m : Int) := fun m hm => by omega
  rw [IntKind.wrap_u64, h1, h3 _ h2, BitVec.ofInt_natCast]
  apply BitVec.eq_of_toNat_eq
  simp [BitVec.toNat_twoPow]
theorem wrap_word (v : BitVec 64) : IntKind.u64.wrap (v.toNat : Int) = (v.toNat : Int) := by
  have := v.isLt
  rw [IntKind.wrap_u64]; omega
theorem bits_or (v : BitVec 64) (r : Nat) (hr : r < 64) : bits .or .u64 (v.toNat : Int) (IntKind.u64.wrap (2 ^ r)) = ((v ||| BitVec.twoPow 64 r).toNat : Int) := by
  show IntKind.u64.wrap (((BitVec.ofInt 64 (v.toNat : Int)) ||| (BitVec.ofInt 64 (IntKind.u64.wrap (2 ^ r)))).toNat : Int) = _
  rw [ofInt_word, ofInt_mask r hr, wrap_word]
theorem bits_andNot (v : BitVec 64) (r : Nat) (hr : r < 64) : bits .andNot .u64 (v.toNat : Int) (IntKind.u64.wrap (2 ^ r)) = ((v &&& ~~~ BitVec.twoPow 64 r).toNat : Int) := by
  show IntKind.u64.wrap (((BitVec.ofInt 64 (v.toNat : Int)) &&& ~~~ (BitVec.ofInt 64 (IntKind.u64.wrap (2 ^ r)))).toNat : Int) = _
  rw [ofInt_word, ofInt_mask r hr, wrap_word]
theorem bits_and (v : BitVec 64) (r : Nat) (hr : r < 64) : (bits .and .u64 (v.toNat : Int) (IntKind.u64.wrap (2 ^ r)) != 0) = v.getLsbD r := by
  have e : bits .and .u64 (v.toNat : Int) (IntKind.u64.wrap (2 ^ r)) = ((v &&& BitVec.twoPow 64 r).toNat : Int) := by
    show IntKind.u64.wrap (((BitVec.ofInt 64 (v.toNat : Int)) &&& (BitVec.ofInt 64 (IntKind.u64.wrap (2 ^ r)))).toNat : Int) = _
    rw [ofInt_word, ofInt_mask r hr, wrap_word]
  rw [e, BitVec.and_twoPow]
  cases h : v.getLsbD r with
  | false => simp
  | true =>
    simp only [if_true, bne_iff_ne, ne_eq]
    have h2 : 2 ^ r < 2 ^ 64 := Nat.pow_lt_pow_right (by decide) hr
    have : (BitVec.twoPow 64 r).toNat = 2 ^ r := by rw [BitVec.toNat_twoPow, Nat.mod_eq_of_lt h2]
    rw [this]
    have : 0 < 2 ^ r := Nat.pow_pos (by decide)
    omega

def words (n : Nat) (v : Nat → BitVec 64) : Array Value := ((List.range (n * 2)).map fun i => if i % 2 = 0 then Value.int .u64 ((v (i / 2)).toNat : Int) else .int .i64 0).toArray
def WRow (w : World) (g n : Nat) (v : Nat → BitVec 64) : Prop := w.heap[g]? = some (.cells (words n v) 57 (0, 0))
theorem WRow.cell {w : World} {g n : Nat} {v : Nat → BitVec 64} (h : WRow w g n v) {i : Nat} (hi : i < n) : w.cell? ⟨g, i * 2, none⟩ = some (.int .u64 ((v i).toNat : Int)) := by
  have h1 : i * 2 < n * 2 := by omega
  have h2 : i * 2 % 2 = 0 := by omega
  have h3 : i * 2 / 2 = i := by omega
  rw [cell_of_row w g _ _ _ _ h]; simp [words, h1, h2, h3]
theorem WRow.free {w : World} {g n : Nat} {v : Nat → BitVec 64} (h : WRow w g n v) (i : Nat) : w.frozen? ⟨g, i, none⟩ = false := frozen_of_row w g i _ _ h
theorem WRow.set {w : World} {g n : Nat} {v : Nat → BitVec 64} (h : WRow w g n v) (k : Nat) (x : BitVec 64) : WRow (w.setCell ⟨g, k * 2, none⟩ (.int .u64 (x.toNat : Int))) g n (fun j => if j = k then x else v j) := by
  unfold WRow
  rw [heap_setCell_same w g _ _ _ _ h]
  unfold words
  rw [set_range]
  congr 4
  funext j
  by_cases h1 : j = k * 2
  · have a1 : k * 2 % 2 = 0 := by omega
    have a2 : k * 2 / 2 = k := by omega
    subst h1; simp [a1, a2]
  · simp only [h1, if_false]
    by_cases h3 : j % 2 = 0
    · have : ¬ j / 2 = k := by omega
      simp [h3, this]
    · simp [h3]

/-- Block g is a set of indices: those that answer to P. -/
def SetAt (w : World) (g n : Nat) (P : Nat → Prop) : Prop := ∃ v, WRow w g n v ∧ ∀ x, x < n * 64 → ((v (x / 64)).getLsbD (x % 64) = true ↔ P x)
theorem SetAt.lt {w : World} {g n : Nat} {P : Nat → Prop} (h : SetAt w g n P) : g < w.heap.size := by
  obtain ⟨v, h, _⟩ := h; exact (Array.getElem?_eq_some_iff.1 h).1
theorem SetAt.same {w w' : World} {g n : Nat} {P : Nat → Prop} (h : SetAt w g n P) (hb : w'.heap[g]? = w.heap[g]?) : SetAt w' g n P := by
  obtain ⟨v, h, hv⟩ := h
  exact ⟨v, hb.trans h, hv⟩
theorem SetAt.congr {w : World} {g n : Nat} {P P' : Nat → Prop} (h : SetAt w g n P) (hp : ∀ x, x < n * 64 → (P x ↔ P' x)) : SetAt w g n P' := by
  obtain ⟨v, h, hv⟩ := h
  exact ⟨v, h, fun x hx => (hv x hx).trans (hp x hx)⟩

/-- w' is w with draws, and with writes to block g alone. -/
structure Touch (g : Nat) (w w' : World) : Prop where
  os : w'.os = w.os
  tape : w'.tape = w.tape
  output : w'.output = w.output
  size : w'.heap.size = w.heap.size
  block : ∀ k, k ≠ g → w'.heap[k]? = w.heap[k]?

theorem touch_set (g : Nat) (w : World) (i : Nat) (v : Value) : Touch g w (w.setCell ⟨g, i, none⟩ v).drew :=
  ⟨rfl, rfl, rfl, by simp, fun k hk => heap_set_other w (by simpa using hk)⟩

theorem has_any (g n x : Nat) (P : Nat → Prop) (w : World) (hx : x < n * 64) (hn : n ≤ 1024) (hs : SetAt w g n P) :
    Calls Try.prog 34 #[.slice (some ⟨g, 0, none⟩) n n, .int .i64 (x : Int)] w fun e w' => ∃ b q, e = .returned (.bool b) ∧ (b = true ↔ P x) ∧ w' = w.drewN q := by
  obtain ⟨v, hrow, hv⟩ := hs
  have HV := hv x hx
  have hc := hrow.cell (i := x / 64) (by omega)
  obtain ⟨d, hd0⟩ : ∃ d, d = x / 64 := ⟨_, rfl⟩
  obtain ⟨r, hr0⟩ : ∃ r, r = x % 64 := ⟨_, rfl⟩
  rw [← hd0, ← hr0] at HV
  rw [← hd0] at hc
  obtain ⟨y, hy⟩ : ∃ y : Int, y = (x : Int) := ⟨_, rfl⟩
  have hq : y / 64 = (d : Int) := by omega
  have hr : y % 64 = (r : Int) := by omega
  have hd : (d : Int) < (n : Int) := by omega
  have hr64 : (r : Int) < 64 := by omega
  have hy0 : 0 ≤ y := by omega
  have hy1 : y ≤ 65536 := by omega
  have HB := bits_and (v d) r (by omega)
  rw [← hy]
  have HV' : Hid (((bits .and .u64 ((v d).toNat : Int) (IntKind.u64.wrap (2 ^ r)) != 0) = true) ↔ P x) := by rw [HB]; exact HV
  clear hy hd0 hr0 hv HB HV hx
  go_enter Try.func34, Try.ntmps34
  go_wp2
  go_quiet (fail)
  go_wp2
  go_ret
  exact ⟨_, _, rfl, HV'.out, rfl⟩

theorem add_any (g n x : Nat) (P : Nat → Prop) (w : World) (hx : x < n * 64) (hn : n ≤ 1024) (hs : SetAt w g n P) :
    Calls Try.prog 35 #[.slice (some ⟨g, 0, none⟩) n n, .int .i64 (x : Int)] w fun e w' => e = .returned (.tuple #[]) ∧ SetAt w' g n (fun y => y = x ∨ P y) ∧ Touch g w w' := by
  obtain ⟨v, hrow, hv⟩ := hs
  have hc := hrow.cell (i := x / 64) (by omega)
  have hf := hrow.free (x / 64 * 2)
  obtain ⟨d, hd0⟩ : ∃ d, d = x / 64 := ⟨_, rfl⟩
  obtain ⟨r, hr0⟩ : ∃ r, r = x % 64 := ⟨_, rfl⟩
  rw [← hd0] at hc hf
  obtain ⟨y, hy⟩ : ∃ y : Int, y = (x : Int) := ⟨_, rfl⟩
  have hq : y / 64 = (d : Int) := by omega
  have hr : y % 64 = (r : Int) := by omega
  have hd : (d : Int) < (n : Int) := by omega
  have hr64 : (r : Int) < 64 := by omega
  have hy0 : 0 ≤ y := by omega
  have hy1 : y ≤ 65536 := by omega
  have HB : Hid (bits .or .u64 ((v d).toNat : Int) (IntKind.u64.wrap (2 ^ r)) = ((v d ||| BitVec.twoPow 64 r).toNat : Int)) := bits_or (v d) r (by omega)
  rw [← hy]
  have HS : Hid (SetAt (w.setCell ⟨g, d * 2, none⟩ (.int .u64 ((v d ||| BitVec.twoPow 64 r).toNat : Int))) g n (fun y => y = x ∨ P y)) := by
    refine ⟨_, hrow.set d _, fun z hz => ?_⟩
    have := hv z hz
    by_cases e : z / 64 = d
    · simp only [e, if_true]
      rw [e] at this
      rw [BitVec.getLsbD_or, BitVec.getLsbD_twoPow, Bool.or_eq_true, this]
      have hz64 : z % 64 < 64 := Nat.mod_lt _ (by decide)
      have : (decide (r < 64) && decide (r = z % 64)) = true ↔ z = x := by simp; omega
      rw [this]
      exact Or.comm
    · simp only [e, if_false]
      have : ¬ z = x := by intro h; subst h; exact e hd0.symm
      simp [this, hv z hz]
  clear hy hd0 hr0 hv hx hrow
  go_enter Try.func35, Try.ntmps35
  go_wp2
  go_region
  all_goals (go_end0; refine ⟨rfl, ?_, ?_⟩)
  all_goals rw [HB.out]
  all_goals first | exact HS.out | exact touch_set _ _ _ _

theorem remove_any (g n x : Nat) (P : Nat → Prop) (w : World) (hx : x < n * 64) (hn : n ≤ 1024) (hs : SetAt w g n P) :
    Calls Try.prog 33 #[.slice (some ⟨g, 0, none⟩) n n, .int .i64 (x : Int)] w fun e w' => e = .returned (.tuple #[]) ∧ SetAt w' g n (fun y => P y ∧ y ≠ x) ∧ Touch g w w' := by
  obtain ⟨v, hrow, hv⟩ := hs
  have hc := hrow.cell (i := x / 64) (by omega)
  have hf := hrow.free (x / 64 * 2)
  obtain ⟨d, hd0⟩ : ∃ d, d = x / 64 := ⟨_, rfl⟩
  obtain ⟨r, hr0⟩ : ∃ r, r = x % 64 := ⟨_, rfl⟩
  rw [← hd0] at hc hf
  obtain ⟨y, hy⟩ : ∃ y : Int, y = (x : Int) := ⟨_, rfl⟩
  have hq : y / 64 = (d : Int) := by omega
  have hr : y % 64 = (r : Int) := by omega
  have hd : (d : Int) < (n : Int) := by omega
  have hr64 : (r : Int) < 64 := by omega
  have hy0 : 0 ≤ y := by omega
  have hy1 : y ≤ 65536 := by omega
  have HB : Hid (bits .andNot .u64 ((v d).toNat : Int) (IntKind.u64.wrap (2 ^ r)) = ((v d &&& ~~~ BitVec.twoPow 64 r).toNat : Int)) := bits_andNot (v d) r (by omega)
  rw [← hy]
  have HS : Hid (SetAt (w.setCell ⟨g, d * 2, none⟩ (.int .u64 ((v d &&& ~~~ BitVec.twoPow 64 r).toNat : Int))) g n (fun y => P y ∧ y ≠ x)) := by
    refine ⟨_, hrow.set d _, fun z hz => ?_⟩
    have := hv z hz
    by_cases e : z / 64 = d
    · simp only [e, if_true]
      rw [e] at this
      have hz64 : z % 64 < 64 := Nat.mod_lt _ (by decide)
      rw [BitVec.getLsbD_and, BitVec.getLsbD_not, BitVec.getLsbD_twoPow, Bool.and_eq_true, this]
      have : (decide (z % 64 < 64) && !(decide (r < 64) && decide (r = z % 64))) = true ↔ z ≠ x := by simp [hz64]; omega
      rw [this]
    · simp only [e, if_false]
      have : z ≠ x := by intro h; subst h; exact e hd0.symm
      simp [this, hv z hz]
  clear hy hd0 hr0 hv hx hrow
  go_enter Try.func33, Try.ntmps33
  go_wp2
  go_region
  all_goals (go_end0; refine ⟨rfl, ?_, ?_⟩)
  all_goals rw [HB.out]
  all_goals first | exact HS.out | exact touch_set _ _ _ _

/-! ### A new set -/
theorem Try.info57 : (Try.prog.info? 57).map (fun i => (i.zero, i.size, i.bytes)) = some (some (.agg #[.int .u64 0, .int .i64 0]), 2, 16) := by kernel_rfl
theorem made_words (n : Nat) : madeCells #[.int .u64 0, .int .i64 0] (n * 2) = words n (fun _ => 0) := by
  apply Array.ext
  · simp [madeCells, words]
  · intro i h1 h2
    have : i % 2 = 0 ∨ i % 2 = 1 := by omega
    rcases this with h | h <;> simp [madeCells, words, h]
theorem make_words (n : Nat) (hn : n ≤ 1048576) (w : World) :
    Sem.run Try.prog (Instr.makeSlice 50 (.int .i64 (n : Int)) (.int .i64 (n : Int))) w = .ok (.slice (some ⟨w.heap.size, 0, none⟩) n n) (w.alloc (.cells (words n (fun _ => 0)) 57)) := by
  obtain ⟨i0, hi, hz0, hz1, hz2⟩ := info_parts Try.info57
  rw [run_make w 50 57 i0 _ Try.underlying50 hi hz0 .i64 .i64 n n (by omega) (by omega) (by rw [hz2]; omega) (by omega), hz1]
  simp only [Int.toNat_natCast]
  show Result.ok _ (w.alloc (.cells (madeCells #[.int .u64 0, .int .i64 0] (n * 2)) 57)) = _
  rw [made_words]

theorem newSet_any (N nw : Nat) (hN : N ≤ 65536) (hw : nw = (N + 63) / 64) (w : World) :
    Calls Try.prog 31 #[.int .i64 (N : Int)] w fun e w' => e = .returned (.slice (some ⟨w.heap.size, 0, none⟩) nw nw) ∧ w.alloc (.cells (words nw (fun _ => 0)) 57) = w' := by
  have hmk := make_words nw (by omega)
  have hq : ((N : Int) + 63) / 64 = (nw : Int) := by omega
  clear hw
  go_enter Try.func31, Try.ntmps31
  go_wp2
  go_ret
  exact ⟨rfl, rfl⟩
theorem SetAt.new (w : World) (n : Nat) : SetAt (w.alloc (.cells (words n (fun _ => 0)) 57)) w.heap.size n (fun _ => False) :=
  ⟨fun _ => 0, heap_alloc_new w _, fun x _ => by simp⟩

/-- 'movesByState.move': the order's move at a place, or the place itself. -/
theorem move_any (oo sa : Option Addr) (m mc sn sc : Nat) (o : Nat → Int) (x : Int) (hx : oo.isNone = false → 0 ≤ x ∧ x < (m : Int)) (w : World) (hI : IntsAt w oo m o) :
    Calls Try.prog 32 #[.agg #[.slice oo m mc, .slice sa sn sc], .int .i64 x] w fun e w' => e = .returned (.int .i64 (atOf oo.isNone o x)) ∧ w.alloc (.cells #[.slice oo m mc, .slice sa sn sc] 41) = w' := by
  have hn := eqnil26
  unfold atOf
  cases oo with
  | none =>
    go_enter Try.func32, Try.ntmps32
    go_wp2
    go_ret
    exact ⟨rfl, rfl⟩
  | some a =>
    obtain ⟨h0, h1⟩ := hx rfl
    obtain ⟨k, rfl⟩ := Int.eq_ofNat_of_zero_le h0
    obtain ⟨b, off, e, hc⟩ := hI k (by omega)
    obtain rfl : a = ⟨b, off, none⟩ := by simpa using e
    have hlt := block_lt_of_cell hc
    simp only at hlt
    clear e hI hx
    go_enter Try.func32, Try.ntmps32
    go_wp2
    go_ret
    exact ⟨rfl, rfl⟩

end Go.Proofs.Qxb6003473a
