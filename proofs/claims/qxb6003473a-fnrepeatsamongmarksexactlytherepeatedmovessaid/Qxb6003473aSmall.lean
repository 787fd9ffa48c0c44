/-
  The seat's small functions, walked once: a slice held against nil, 'make', renumbering.of (29), zzStateOf (18), zzMoveAt (21), zzCloneMoves (15), zzCloneInts (16).
-/
import Derived.Test.Qxb6003473aProg
import Derived.Test.Qxb6003473aMem
import Derived.WalkKit
import Derived.PlainAid
import Derived.WalkSpells
import Derived.WalkLawsBesides
import Derived.Deep.QuietTactic
import Derived.BigQuiet
namespace Go.Proofs.Qxb6003473a
open Go.RowKit Go.PlainAid
set_option linter.unusedVariables false


theorem Try.info3 : (Try.prog.info? 3).map (fun i => (i.zero, i.size, i.bytes)) = some (some (.int .i64 0), 1, 8) := by kernel_rfl
theorem Try.info28 : (Try.prog.info? 28).map (fun i => (i.zero, i.size, i.bytes)) = some (some (.agg #[.int .i64 0, .int .i64 0]), 2, 16) := by kernel_rfl
theorem Try.info4 : (Try.prog.info? 4).map (fun i => (i.zero, i.size, i.bytes)) = some (some (.bool false), 1, 1) := by kernel_rfl

theorem eqnil43 (a : Option Addr) (n c : Nat) (w : World) : Sem.run Try.prog (binOp BinOp.eql 43 (.slice a n c) (.slice none 0 0)) w = .ok (.bool a.isNone) w :=
  Lib.run_eql_slice_nil w 43 3 a n c 0 0 Try.underlying43
theorem eqnil25 (a : Option Addr) (n c : Nat) (w : World) : Sem.run Try.prog (binOp BinOp.eql 25 (.slice a n c) (.slice none 0 0)) w = .ok (.bool a.isNone) w :=
  Lib.run_eql_slice_nil w 25 28 a n c 0 0 Try.underlying25
theorem eqnil26 (a : Option Addr) (n c : Nat) (w : World) : Sem.run Try.prog (binOp BinOp.eql 26 (.slice a n c) (.slice none 0 0)) w = .ok (.bool a.isNone) w :=
  Lib.run_eql_slice_nil w 26 3 a n c 0 0 Try.underlying26

theorem made_ints (n : Nat) : madeCells #[.int .i64 0] n = ints n (fun _ => 0) := by
  apply Array.ext
  · simp [madeCells, ints]
  · intro i h1 h2
    simp [madeCells, ints, Nat.mod_one]
theorem made_pairs (n : Nat) : madeCells #[.int .i64 0, .int .i64 0] (n * 2) = pairs n (fun _ => 0) (fun _ => 0) := by
  apply Array.ext
  · simp [madeCells, pairs]
  · intro i h1 h2
    have : i % 2 = 0 ∨ i % 2 = 1 := by omega
    rcases this with h | h <;> simp [madeCells, pairs, h]
theorem made_bools (n : Nat) : madeCells #[.bool false] n = bools n (fun _ => false) := by
  apply Array.ext
  · simp [madeCells, bools]
  · intro i h1 h2
    simp [madeCells, bools, Nat.mod_one]

theorem make_ints (k : IntKind) (n : Nat) (C : Int) (hC : C = n) (hn : n ≤ 1048576) (w : World) :
    Sem.run Try.prog (Instr.makeSlice 26 (.int k C) (.int k C)) w = .ok (.slice (some ⟨w.heap.size, 0, none⟩) n n) (w.alloc (.cells (ints n (fun _ => 0)) 3)) := by
  obtain ⟨i0, hi, hz0, hz1, hz2⟩ := info_parts Try.info3
  subst hC
  rw [run_make w 26 3 i0 _ Try.underlying26 hi hz0 k k n n (by omega) (by omega) (by rw [hz2]; omega) (by omega), hz1]
  simp only [Int.toNat_natCast, Nat.mul_one]
  show Result.ok _ (w.alloc (.cells (madeCells #[.int .i64 0] n) 3)) = _
  rw [made_ints]
theorem make_pairs (n : Nat) (hn : n ≤ 1048576) (w : World) :
    Sem.run Try.prog (Instr.makeSlice 25 (.int .i64 (n : Int)) (.int .i64 (n : Int))) w = .ok (.slice (some ⟨w.heap.size, 0, none⟩) n n) (w.alloc (.cells (pairs n (fun _ => 0) (fun _ => 0)) 28)) := by
  obtain ⟨i0, hi, hz0, hz1, hz2⟩ := info_parts Try.info28
  rw [run_make w 25 28 i0 _ Try.underlying25 hi hz0 .i64 .i64 n n (by omega) (by omega) (by rw [hz2]; omega) (by omega), hz1]
  simp only [Int.toNat_natCast]
  show Result.ok _ (w.alloc (.cells (madeCells #[.int .i64 0, .int .i64 0] (n * 2)) 28)) = _
  rw [made_pairs]
theorem make_bools (n : Nat) (hn : n ≤ 1048576) (w : World) :
    Sem.run Try.prog (Instr.makeSlice 37 (.int .i64 (n : Int)) (.int .i64 (n : Int))) w = .ok (.slice (some ⟨w.heap.size, 0, none⟩) n n) (w.alloc (.cells (bools n (fun _ => false)) 4)) := by
  obtain ⟨i0, hi, hz0, hz1, hz2⟩ := info_parts Try.info4
  rw [run_make w 37 4 i0 _ Try.underlying37 hi hz0 .i64 .i64 n n (by omega) (by omega) (by rw [hz2]; omega) (by omega), hz1]
  simp only [Int.toNat_natCast, Nat.mul_one]
  show Result.ok _ (w.alloc (.cells (madeCells #[.bool false] n) 4)) = _
  rw [made_bools]

/-! ### renumbering.of, zzStateOf, zzMoveAt: the number at an index, or the index itself where the slice is nil -/
def atOf (nil : Bool) (z : Nat → Int) (x : Int) : Int := if nil then x else z x.toNat

theorem of_any (ao : Option Addr) (n c : Nat) (z : Nat → Int) (x : Int) (hx : ao.isNone = false → 0 ≤ x ∧ x < (n : Int)) (hm : n ≤ 1048576) (w : World) (hI : IntsAt w ao n z) :
    Calls Try.prog 29 #[.slice ao n c, .int .i64 x] w fun e w' => e = .returned (.int .i64 (atOf ao.isNone z x)) ∧ w' = w := by
  have hn := eqnil43
  unfold atOf
  cases ao with
  | none =>
    go_enter Try.func29, Try.ntmps29
    go_wp2
    go_ret
    exact ⟨rfl, rfl⟩
  | some a =>
    obtain ⟨h0, h1⟩ := hx rfl
    obtain ⟨k, rfl⟩ := Int.eq_ofNat_of_zero_le h0
    obtain ⟨b, off, e, hc⟩ := hI k (by omega)
    obtain rfl : a = ⟨b, off, none⟩ := by simpa using e
    clear e hI hx
    go_enter Try.func29, Try.ntmps29
    go_wp2
    go_ret
    exact ⟨rfl, rfl⟩

theorem stateOf_any (ao : Option Addr) (n c : Nat) (z : Nat → Int) (x : Int) (hx : ao.isNone = false → 0 ≤ x ∧ x < (n : Int)) (hm : n ≤ 1048576) (w : World) (hI : IntsAt w ao n z) :
    Calls Try.prog 18 #[.slice ao n c, .int .i64 x] w fun e w' => e = .returned (.int .i64 (atOf ao.isNone z x)) ∧ w' = w := by
  have hn := eqnil26
  unfold atOf
  cases ao with
  | none =>
    go_enter Try.func18, Try.ntmps18
    go_wp2
    go_ret
    exact ⟨rfl, rfl⟩
  | some a =>
    obtain ⟨h0, h1⟩ := hx rfl
    obtain ⟨k, rfl⟩ := Int.eq_ofNat_of_zero_le h0
    obtain ⟨b, off, e, hc⟩ := hI k (by omega)
    obtain rfl : a = ⟨b, off, none⟩ := by simpa using e
    clear e hI hx
    go_enter Try.func18, Try.ntmps18
    go_wp2
    go_ret
    exact ⟨rfl, rfl⟩

theorem moveAt_any (ao : Option Addr) (n c : Nat) (z : Nat → Int) (x : Int) (hx : ao.isNone = false → 0 ≤ x ∧ x < (n : Int)) (hm : n ≤ 1048576) (w : World) (hI : IntsAt w ao n z) :
    Calls Try.prog 21 #[.slice ao n c, .int .i64 x] w fun e w' => e = .returned (.int .i64 (atOf ao.isNone z x)) ∧ w' = w := by
  have hn := eqnil26
  unfold atOf
  cases ao with
  | none =>
    go_enter Try.func21, Try.ntmps21
    go_wp2
    go_ret
    exact ⟨rfl, rfl⟩
  | some a =>
    obtain ⟨h0, h1⟩ := hx rfl
    obtain ⟨k, rfl⟩ := Int.eq_ofNat_of_zero_le h0
    obtain ⟨b, off, e, hc⟩ := hI k (by omega)
    obtain rfl : a = ⟨b, off, none⟩ := by simpa using e
    clear e hI hx
    go_enter Try.func21, Try.ntmps21
    go_wp2
    go_ret
    exact ⟨rfl, rfl⟩

/-! ### The two clones -/
theorem cloneMoves_any (ao : Option Addr) (n c : Nat) (f g : Nat → Int) (hn : n ≤ 1048576) (w : World) (hnil : ao = none → n = 0) (hp : PairsAt w ao n f g) :
    Calls Try.prog 15 #[.slice ao n c] w fun e w' => ∃ ao', e = .returned (.slice ao' n n) ∧ ao'.isNone = ao.isNone ∧ PairsAt w' ao' n f g ∧ Below w.heap.size w w' := by
  have hq := eqnil25
  cases ao with
  | none =>
    obtain rfl := hnil rfl
    go_enter Try.func15, Try.ntmps15
    go_wp2
    go_ret
    exact ⟨none, rfl, rfl, fun i hi => by omega, Below.refl _ _⟩
  | some a =>
    clear hnil
    have hmk := make_pairs n hn
    go_enter Try.func15, Try.ntmps15
    go_wp2
    go_loopw [4] (fun i wr => ∃ k : Nat, k ≤ n ∧ i = .int .i64 k ∧ Row2 wr w.heap.size n (fun j => if j < k then f j else 0) (fun j => if j < k then g j else 0) ∧ Below w.heap.size w wr) (fun i _ => n - (intOf i).toNat)
    case atStart => exact ⟨0, Nat.zero_le _, rfl, Row2.new w n _ _, (Below.refl _ _).alloc (Nat.le_refl _) _⟩
    case round =>
      obtain ⟨k, hk, rfl, hrow, hb⟩ := hrel
      by_cases hlt : k < n
      · obtain ⟨b, off, e, hc1, hc2⟩ := (hp.below hb) k hlt
        obtain rfl : a = ⟨b, off, none⟩ := by simpa using e
        obtain ⟨x, hr1⟩ : ∃ x, wr.cell? ⟨w.heap.size, k * 2, none⟩ = some x := ⟨_, hrow.cell0 hlt⟩
        obtain ⟨y, hr2⟩ : ∃ x, wr.cell? ⟨w.heap.size, k * 2 + 1, none⟩ = some x := ⟨_, hrow.cell1 hlt⟩
        have hf1 := hrow.free (k * 2)
        have hf2 := hrow.free (k * 2 + 1)
        clear e
        go_wp2
        go_roundw
        case rel =>
          refine ⟨k + 1, by omega, by go_num, (hrow.set k (f k) (g k)).congr (fun j hj => ?_) (fun j hj => ?_), (hb.setCell (Nat.le_refl _) _).setCell (Nat.le_refl _) _⟩
          · by_cases h1 : j = k
            · subst h1; simp
            · by_cases h2 : j < k
              · simp [h1, h2, show j < k + 1 by omega]
              · simp [h1, h2, show ¬ j < k + 1 by omega]
          · by_cases h1 : j = k
            · subst h1; simp
            · by_cases h2 : j < k
              · simp [h1, h2, show j < k + 1 by omega]
              · simp [h1, h2, show ¬ j < k + 1 by omega]
        case measure => simp [intOf]; omega
      · go_wp2
        go_ret
        exact ⟨_, rfl, rfl, (hrow.congr (fun j hj => by simp [show j < k by omega]) (fun j hj => by simp [show j < k by omega])).at, hb⟩

theorem cloneInts_any (ao : Option Addr) (n c : Nat) (f : Nat → Int) (hn : n ≤ 1048576) (w : World) (hnil : ao = none → n = 0) (hp : IntsAt w ao n f) :
    Calls Try.prog 16 #[.slice ao n c] w fun e w' => ∃ ao', e = .returned (.slice ao' n n) ∧ ao'.isNone = ao.isNone ∧ IntsAt w' ao' n f ∧ Below w.heap.size w w' := by
  have hq := eqnil26
  cases ao with
  | none =>
    obtain rfl := hnil rfl
    go_enter Try.func16, Try.ntmps16
    go_wp2
    go_ret
    exact ⟨none, rfl, rfl, fun i hi => by omega, Below.refl _ _⟩
  | some a =>
    clear hnil
    have hmk := make_ints .i64 n n rfl hn
    go_enter Try.func16, Try.ntmps16
    go_wp2
    go_loopw [4] (fun i wr => ∃ k : Nat, k ≤ n ∧ i = .int .i64 k ∧ Row wr w.heap.size n (fun j => if j < k then f j else 0) ∧ Below w.heap.size w wr) (fun i _ => n - (intOf i).toNat)
    case atStart => exact ⟨0, Nat.zero_le _, rfl, Row.new w n _, (Below.refl _ _).alloc (Nat.le_refl _) _⟩
    case round =>
      obtain ⟨k, hk, rfl, hrow, hb⟩ := hrel
      by_cases hlt : k < n
      · obtain ⟨b, off, e, hc1⟩ := (hp.below hb) k hlt
        obtain rfl : a = ⟨b, off, none⟩ := by simpa using e
        obtain ⟨x, hr1⟩ : ∃ x, wr.cell? ⟨w.heap.size, k, none⟩ = some x := ⟨_, hrow.cell hlt⟩
        have hf1 := hrow.free k
        clear e
        go_wp2
        go_roundw
        case rel =>
          refine ⟨k + 1, by omega, by go_num, (hrow.set k (f k)).congr (fun j hj => ?_), hb.setCell (Nat.le_refl _) _⟩
          by_cases h1 : j = k
          · subst h1; simp
          · by_cases h2 : j < k
            · simp [h1, h2, show j < k + 1 by omega]
            · simp [h1, h2, show ¬ j < k + 1 by omega]
        case measure => simp [intOf]; omega
      · go_wp2
        go_ret
        exact ⟨_, rfl, rfl, (hrow.congr (fun j hj => by simp [show j < k by omega])).at, hb⟩
end Go.Proofs.Qxb6003473a
