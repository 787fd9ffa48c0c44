/-
  The seat's small functions, walked once: 'make', zzCloneStrings (9), zzCloneBools (10), zzAdd (17).
-/
import Derived.Test.Qxb6602758aProg
import Derived.Test.Qxb6602758aMem
import Derived.WalkKit
import Derived.PlainAid
import Derived.WalkSpells
import Derived.WalkLawsBesides
import Derived.Deep.QuietTactic
import Derived.BigQuiet
import Derived.RegionTactic
import Derived.ChangeAlike
import Derived.BigRegion
namespace Go.Proofs.Qxb6602758a
open Go.RowKit Go.PlainAid
set_option linter.unusedVariables false

theorem Try.info9 : (Try.prog.info? 9).map (fun i => (i.zero, i.size, i.bytes)) = some (some (.string ⟨#[]⟩), 1, 16) := by kernel_rfl
theorem Try.info4 : (Try.prog.info? 4).map (fun i => (i.zero, i.size, i.bytes)) = some (some (.bool false), 1, 1) := by kernel_rfl
theorem Try.info44 : (Try.prog.info? 44).map (fun i => (i.zero, i.size, i.bytes)) = some (some (.agg #[.string ⟨#[]⟩, .bool false, .bool false, .bool false, .string ⟨#[]⟩, .pointer none]), 6, 48) := by kernel_rfl

theorem eqnil22 (a : Option Addr) (n c : Nat) (w : World) : Sem.run Try.prog (binOp BinOp.eql 22 (.slice a n c) (.slice none 0 0)) w = .ok (.bool a.isNone) w :=
  Lib.run_eql_slice_nil w 22 9 a n c 0 0 Try.underlying22
theorem eqnil23 (a : Option Addr) (n c : Nat) (w : World) : Sem.run Try.prog (binOp BinOp.eql 23 (.slice a n c) (.slice none 0 0)) w = .ok (.bool a.isNone) w :=
  Lib.run_eql_slice_nil w 23 4 a n c 0 0 Try.underlying23
theorem neqnil22 (a : Option Addr) (n c : Nat) (w : World) : Sem.run Try.prog (binOp BinOp.neq 22 (.slice a n c) (.slice none 0 0)) w = .ok (.bool (!a.isNone)) w :=
  run_neq_slice_nil_any w 22 9 a n c 0 0 Try.underlying22

theorem made_strs (n : Nat) : madeCells #[.string ⟨#[]⟩] n = strs n (fun _ => ⟨#[]⟩) := by
  apply Array.ext
  · simp [madeCells, strs]
  · intro i h1 h2
    simp [madeCells, strs, Nat.mod_one]
theorem made_bools (n : Nat) : madeCells #[.bool false] n = bools n (fun _ => false) := by
  apply Array.ext
  · simp [madeCells, bools]
  · intro i h1 h2
    simp [madeCells, bools, Nat.mod_one]
theorem made_vers (n : Nat) : madeCells #[.string ⟨#[]⟩, .bool false, .bool false, .bool false, .string ⟨#[]⟩, .pointer none] (n * 6) = vers n (fun _ => ⟨#[]⟩) (fun _ => ⟨#[]⟩) (fun _ => false) (fun _ => false) (fun _ => false) := by
  apply Array.ext
  · simp [madeCells, vers]
  · intro i h1 h2
    have : i % 6 = 0 ∨ i % 6 = 1 ∨ i % 6 = 2 ∨ i % 6 = 3 ∨ i % 6 = 4 ∨ i % 6 = 5 := by omega
    rcases this with h | h | h | h | h | h <;> simp [madeCells, vers, vcell, h]

theorem make_strs (n : Nat) (hn : n ≤ 1048576) (w : World) :
    Sem.run Try.prog (Instr.makeSlice 22 (.int .i64 (n : Int)) (.int .i64 (n : Int))) w = .ok (.slice (some ⟨w.heap.size, 0, none⟩) n n) (w.alloc (.cells (strs n (fun _ => ⟨#[]⟩)) 9)) := by
  obtain ⟨i0, hi, hz0, hz1, hz2⟩ := info_parts Try.info9
  rw [run_make w 22 9 i0 _ Try.underlying22 hi hz0 .i64 .i64 n n (by omega) (by omega) (by rw [hz2]; omega) (by omega), hz1]
  simp only [Int.toNat_natCast, Nat.mul_one]
  show Result.ok _ (w.alloc (.cells (madeCells #[.string ⟨#[]⟩] n) 9)) = _
  rw [made_strs]
theorem make_bools (n : Nat) (hn : n ≤ 1048576) (w : World) :
    Sem.run Try.prog (Instr.makeSlice 23 (.int .i64 (n : Int)) (.int .i64 (n : Int))) w = .ok (.slice (some ⟨w.heap.size, 0, none⟩) n n) (w.alloc (.cells (bools n (fun _ => false)) 4)) := by
  obtain ⟨i0, hi, hz0, hz1, hz2⟩ := info_parts Try.info4
  rw [run_make w 23 4 i0 _ Try.underlying23 hi hz0 .i64 .i64 n n (by omega) (by omega) (by rw [hz2]; omega) (by omega), hz1]
  simp only [Int.toNat_natCast, Nat.mul_one]
  show Result.ok _ (w.alloc (.cells (madeCells #[.bool false] n) 4)) = _
  rw [made_bools]
theorem make_vers (n : Nat) (hn : n ≤ 1048576) (w : World) :
    Sem.run Try.prog (Instr.makeSlice 37 (.int .i64 (n : Int)) (.int .i64 (n : Int))) w = .ok (.slice (some ⟨w.heap.size, 0, none⟩) n n) (w.alloc (.cells (vers n (fun _ => ⟨#[]⟩) (fun _ => ⟨#[]⟩) (fun _ => false) (fun _ => false) (fun _ => false)) 44)) := by
  obtain ⟨i0, hi, hz0, hz1, hz2⟩ := info_parts Try.info44
  rw [run_make w 37 44 i0 _ Try.underlying37 hi hz0 .i64 .i64 n n (by omega) (by omega) (by rw [hz2]; omega) (by omega), hz1]
  simp only [Int.toNat_natCast]
  show Result.ok _ (w.alloc (.cells (madeCells #[.string ⟨#[]⟩, .bool false, .bool false, .bool false, .string ⟨#[]⟩, .pointer none] (n * 6)) 44)) = _
  rw [made_vers]

theorem cloneStrs_any (ao : Option Addr) (n c : Nat) (f : Nat → ByteArray) (hn : n ≤ 1048576) (w : World) (hnil : ao = none → n = 0) (hp : StrsAt w ao n f) :
    Calls Try.prog 9 #[.slice ao n c] w fun e w' => ∃ ao', e = .returned (.slice ao' n n) ∧ ao'.isNone = ao.isNone ∧ StrsAt w' ao' n f ∧ Below w.heap.size w w' := by
  have hq := eqnil22
  cases ao with
  | none =>
    obtain rfl := hnil rfl
    go_enter Try.func9, Try.ntmps9
    go_wp2
    go_ret
    exact ⟨none, rfl, rfl, fun i hi => by omega, Below.refl _ _⟩
  | some a =>
    clear hnil
    have hmk := make_strs n hn
    go_enter Try.func9, Try.ntmps9
    go_wp2
    go_loopw [4] (fun i wr => ∃ k : Nat, k ≤ n ∧ i = .int .i64 k ∧ RowS wr w.heap.size n (fun j => if j < k then f j else ⟨#[]⟩) ∧ Below w.heap.size w wr) (fun i _ => n - (intOf i).toNat)
    case atStart => exact ⟨0, Nat.zero_le _, rfl, RowS.new w n _, (Below.refl _ _).alloc (Nat.le_refl _) _⟩
    case round =>
      obtain ⟨k, hk, rfl, hrow, hb⟩ := hrel
      by_cases hlt : k < n
      · obtain ⟨b, off, e, hc1⟩ := (hp.below hb) k hlt
        obtain rfl : a = ⟨b, off, none⟩ := by simpa using e
        obtain ⟨x, hr1⟩ : ∃ x, wr.cell? ⟨w.heap.size, k, none⟩ = some x := ⟨_, hrow.cell hlt⟩
        have hf1 := hrow.free k
        clear e
        go_wp2
        go_roundw
        case rel =>
          refine ⟨k + 1, by omega, by go_num, (hrow.set k (f k)).congr (fun j hj => ?_), hb.setCell (Nat.le_refl _) _⟩
          by_cases h1 : j = k
          · subst h1; simp
          · by_cases h2 : j < k
            · simp [h1, h2, show j < k + 1 by omega]
            · simp [h1, h2, show ¬ j < k + 1 by omega]
        case measure => simp [intOf]; omega
      · go_wp2
        go_ret
        exact ⟨_, rfl, rfl, (hrow.congr (fun j hj => by simp [show j < k by omega])).at, hb⟩

theorem cloneBools_any (ao : Option Addr) (n c : Nat) (f : Nat → Bool) (hn : n ≤ 1048576) (w : World) (hnil : ao = none → n = 0) (hp : BoolsAt w ao n f) :
    Calls Try.prog 10 #[.slice ao n c] w fun e w' => ∃ ao', e = .returned (.slice ao' n n) ∧ ao'.isNone = ao.isNone ∧ BoolsAt w' ao' n f ∧ Below w.heap.size w w' := by
  have hq := eqnil23
  cases ao with
  | none =>
    obtain rfl := hnil rfl
    go_enter Try.func10, Try.ntmps10
    go_wp2
    go_ret
    exact ⟨none, rfl, rfl, fun i hi => by omega, Below.refl _ _⟩
  | some a =>
    clear hnil
    have hmk := make_bools n hn
    go_enter Try.func10, Try.ntmps10
    go_wp2
    go_loopw [4] (fun i wr => ∃ k : Nat, k ≤ n ∧ i = .int .i64 k ∧ RowB wr w.heap.size n (fun j => if j < k then f j else false) ∧ Below w.heap.size w wr) (fun i _ => n - (intOf i).toNat)
    case atStart => exact ⟨0, Nat.zero_le _, rfl, RowB.new w n _, (Below.refl _ _).alloc (Nat.le_refl _) _⟩
    case round =>
      obtain ⟨k, hk, rfl, hrow, hb⟩ := hrel
      by_cases hlt : k < n
      · obtain ⟨b, off, e, hc1⟩ := (hp.below hb) k hlt
        obtain rfl : a = ⟨b, off, none⟩ := by simpa using e
        obtain ⟨x, hr1⟩ : ∃ x, wr.cell? ⟨w.heap.size, k, none⟩ = some x := ⟨_, hrow.cell hlt⟩
        have hf1 := hrow.free k
        clear e
        go_wp2
        go_roundw
        case rel =>
          refine ⟨k + 1, by omega, by go_num, (hrow.set k (f k)).congr (fun j hj => ?_), hb.setCell (Nat.le_refl _) _⟩
          by_cases h1 : j = k
          · subst h1; simp
          · by_cases h2 : j < k
            · simp [h1, h2, show j < k + 1 by omega]
            · simp [h1, h2, show ¬ j < k + 1 by omega]
        case measure => simp [intOf]; omega
      · go_wp2
        go_ret
        exact ⟨_, rfl, rfl, (hrow.congr (fun j hj => by simp [show j < k by omega])).at, hb⟩

/-- zzAdd. -/
theorem zzAdd_any (t n : Int) (w : World) (ht0 : 0 ≤ t) (ht1 : t ≤ 1048576) (hn0 : 0 ≤ n) (hn1 : n ≤ 9223372036854775807) :
    Calls Try.prog 17 #[.int .i64 t, .int .i64 n] w fun e w' => ((∃ t', e = .returned (.tuple #[.int .i64 t', .bool true])) ∨ (t + n ≤ 1048576 ∧ e = .returned (.tuple #[.int .i64 (t + n), .bool false]))) ∧ w = w' := by
  by_cases h : t + n ≤ 1048576
  · have hd : decide (1048576 - t < n) = false := decide_eq_false (by omega)
    go_enter Try.func17, Try.ntmps17
    go_wp2
    go_ret2
    exact ⟨.inr ⟨h, rfl⟩, rfl⟩
  · have hd : decide (1048576 - t < n) = true := decide_eq_true (by omega)
    go_enter Try.func17, Try.ntmps17
    go_wp2
    go_ret2
    exact ⟨.inl ⟨_, rfl⟩, rfl⟩
end Go.Proofs.Qxb6602758a
