/-
  'scan.byCRD' (function 20), 'scan.ZZByCRD' (15) and 'scan.ZZServedInstead' (11), walked once.
-/
import Derived.Test.Qxb6602758aServed
import Derived.Test.Qxb6602758aCrd
namespace Go.Proofs.Qxb6602758a
open Go.RowKit Go.PlainAid
set_option linter.unusedVariables false

def removedB : ByteArray := ⟨#[114, 101, 109, 111, 118, 101, 100]⟩
def deprB : ByteArray := ⟨#[100, 101, 112, 114, 101, 99, 97, 116, 101, 100]⟩
def m1B : ByteArray := ⟨#[110, 111, 116, 32, 108, 105, 115, 116, 101, 100, 32, 98, 121, 32, 105, 116, 115, 32, 67, 82, 68]⟩
def m2B : ByteArray := ⟨#[110, 111, 116, 32, 115, 101, 114, 118, 101, 100, 32, 98, 121, 32, 105, 116, 115, 32, 67, 82, 68]⟩
def m3B : ByteArray := ⟨#[100, 101, 112, 114, 101, 99, 97, 116, 101, 100, 32, 98, 121, 32, 105, 116, 115, 32, 67, 82, 68]⟩
def sepB : ByteArray := ⟨#[59, 32]⟩
def stOf (s d : Bool) : ByteArray := if s then (if d then deprB else ⟨#[]⟩) else removedB
def baseOf (s : Bool) : ByteArray := if s then m3B else m2B
def msgOf (s d : Bool) (wn si : ByteArray) : ByteArray := if s && !d then ⟨#[]⟩ else (baseOf s ++ sepB) ++ (if wn.toList.isEmpty then si else wn)

/-- What byCRD answers. -/
def ByOut (nm wn : Nat → ByteArray) (sv dp : Nat → Bool) (n : Nat) (v : ByteArray) (S M : ByteArray) : Prop :=
  (∃ i, i < n ∧ nm i = v ∧ (∀ j, j < i → nm j ≠ v) ∧ S = stOf (sv i) (dp i) ∧ M = msgOf (sv i) (dp i) (wn i) (siB nm sv dp n)) ∨
  ((∀ i, i < n → nm i ≠ v) ∧ S = removedB ∧ M = (m1B ++ sepB) ++ siB nm sv dp n)

set_option maxRecDepth 100000 in
set_option maxHeartbeats 8000000 in
theorem byCRD_any (gr ki v : ByteArray) (vo : Option Addr) (n : Nat) (nm wn : Nat → ByteArray) (sv st dp : Nat → Bool) (w : World) (hn : n ≤ 65536) (hs : sumB nm n ≤ 1048576) (hw : Hid (∀ i, i < n → (wn i).size ≤ 1048576)) (hV : VersAt w vo n nm wn sv st dp) :
    Calls Try.prog 20 #[.agg #[.string gr, .string ki, .slice vo n n], .string v] w fun e w' => ∃ S M, e = .returned (.tuple #[.string S, .string M]) ∧ ByOut nm wn sv dp n v S M ∧ Below w.heap.size w w' := by
  have hB0 : Below w.heap.size w (w.alloc (.cells #[.string gr, .string ki, .slice vo n n] 39)) := (Below.refl _ _).alloc (Nat.le_refl _) _
  have hsi := siB_size nm sv dp n
  go_enter Try.func20, Try.ntmps20
  go_wp2_with fail
  refine (version_any gr ki v vo n nm wn sv st dp _ (by omega) (hV.below hB0)).mono ?_
  rintro e w1 ⟨hcase, hb1⟩
  have hB1 : Below w.heap.size w w1 := hB0.trans (hb1.mono (by simp))
  have hbx : w1.heap[w.heap.size]? = some (.cells #[.string gr, .string ki, .slice vo n n] 39 (0, 0)) := (hb1.block _ (by simp)).trans (heap_alloc_new w _)
  have k0 : w1.cell? ⟨w.heap.size, 0, none⟩ = some (.string gr) := by rw [cell_of_row w1 _ _ _ _ _ hbx]; rfl
  have k1 : w1.cell? ⟨w.heap.size, 1, none⟩ = some (.string ki) := by rw [cell_of_row w1 _ _ _ _ _ hbx]; rfl
  have k2 : w1.cell? ⟨w.heap.size, 2, none⟩ = some (.slice vo n n) := by rw [cell_of_row w1 _ _ _ _ _ hbx]; rfl
  have hl1 : w.heap.size < w1.heap.size := (Array.getElem?_eq_some_iff.1 hbx).1
  have hV1 := hV.below hB1
  clear hb1 hB0 hV hbx
  rcases hcase with ⟨i, hin, hiv, hif, rfl⟩ | ⟨hno, rfl⟩
  · have HF := Hid.mkk (And.intro hiv hif)
    have hwi := hw.out i hin
    clear hiv hif hw
    have HO : Hid (∀ S M, S = stOf (sv i) (dp i) → M = msgOf (sv i) (dp i) (wn i) (siB nm sv dp n) → ByOut nm wn sv dp n v S M) := fun S M h1 h2 => .inl ⟨i, hin, HF.out.1, HF.out.2, h1, h2⟩
    generalize nm i = nmi at *
    generalize hsv : sv i = svi at *
    generalize hdp : dp i = dpi at *
    generalize wn i = wni at *
    clear hsv hdp HF
    cases svi with
    | false =>
      cases he : wni.toList.isEmpty with
      | true =>
        go_wp2_with fail
        have hB2 : Below w.heap.size w (w1.alloc (.cells #[.string nmi, .bool false, .bool (st i), .bool dpi, .string wni, .pointer none] 44)) := hB1.alloc hB1.size _
        refine (served_any gr ki vo n nm wn sv st dp _ hn hs (hV1.below ((Below.refl _ _).alloc (Nat.le_refl _) _))).mono ?_
        rintro e w2 ⟨rfl, hb2⟩
        have hB3 : Below w.heap.size w w2 := hB2.trans (hb2.mono (by simpa using Nat.le_succ_of_le hB1.size))
        clear hb2 hB2
        generalize siB nm sv dp n = SS at *
        go_wp2
        go_ret2
        exact ⟨_, _, rfl, HO.out _ _ rfl (by unfold msgOf; rw [he]; rfl), hB3⟩
      | false =>
        go_wp2
        go_quiet (fail)
        go_wp2
        go_ret2
        exact ⟨_, _, rfl, HO.out _ _ rfl (by unfold msgOf; rw [he]; rfl), below_drewN (hB1.alloc hB1.size _) _⟩
    | true =>
      cases dpi with
      | false =>
        go_wp2
        go_ret2
        exact ⟨_, _, rfl, HO.out _ _ rfl rfl, hB1.alloc hB1.size _⟩
      | true =>
        cases he : wni.toList.isEmpty with
        | true =>
          go_wp2_with fail
          have hB2 : Below w.heap.size w (w1.alloc (.cells #[.string nmi, .bool true, .bool (st i), .bool true, .string wni, .pointer none] 44)) := hB1.alloc hB1.size _
          refine (served_any gr ki vo n nm wn sv st dp _ hn hs (hV1.below ((Below.refl _ _).alloc (Nat.le_refl _) _))).mono ?_
          rintro e w2 ⟨rfl, hb2⟩
          have hB3 : Below w.heap.size w w2 := hB2.trans (hb2.mono (by simpa using Nat.le_succ_of_le hB1.size))
          clear hb2 hB2
          generalize siB nm sv dp n = SS at *
          go_wp2
          go_ret2
          exact ⟨_, _, rfl, HO.out _ _ rfl (by unfold msgOf; rw [he]; rfl), hB3⟩
        | false =>
          go_wp2
          go_quiet (fail)
          go_wp2
          go_ret2
          exact ⟨_, _, rfl, HO.out _ _ rfl (by unfold msgOf; rw [he]; rfl), below_drewN (hB1.alloc hB1.size _) _⟩
  · have HO : Hid (∀ S M, S = removedB → M = (m1B ++ sepB) ++ siB nm sv dp n → ByOut nm wn sv dp n v S M) := fun S M h1 h2 => .inr ⟨hno, h1, h2⟩
    clear hno hw
    go_wp2_with fail
    have hB2 : Below w.heap.size w (w1.alloc (.cells #[.string ⟨#[]⟩, .bool false, .bool false, .bool false, .string ⟨#[]⟩, .pointer none] 44)) := hB1.alloc hB1.size _
    refine (served_any gr ki vo n nm wn sv st dp _ hn hs (hV1.below ((Below.refl _ _).alloc (Nat.le_refl _) _))).mono ?_
    rintro e w2 ⟨rfl, hb2⟩
    have hB3 : Below w.heap.size w w2 := hB2.trans (hb2.mono (by simpa using Nat.le_succ_of_le hB1.size))
    clear hb2 hB2
    generalize siB nm sv dp n = SS at *
    go_wp2
    go_ret2
    exact ⟨_, _, rfl, HO.out _ _ rfl (by rfl), hB3⟩

theorem zzServed_any (gr ki : ByteArray) (no so to dpo wo : Option Addr) (n nc sc tc dc wc : Nat) (nm wn : Nat → ByteArray) (sv st dp : Nat → Bool) (w : World) (hn : n ≤ 65536) (hs : sumB nm n ≤ 1048576)
    (hnil : Hid (no = none → n = 0)) (h1 : StrsAt w no n nm) (h2 : BoolsAt w so n sv) (h3 : BoolsAt w to n st) (h4 : BoolsAt w dpo n dp) (h5 : StrsAt w wo n wn) :
    Calls Try.prog 11 #[.string gr, .string ki, .slice no n nc, .slice so n sc, .slice to n tc, .slice dpo n dc, .slice wo n wc] w fun e w' =>
      e = .returned (.string (siB nm sv dp n)) ∧ Below w.heap.size w w' := by
  go_enter Try.func11, Try.ntmps11
  go_wp2_with fail
  refine (crd_any gr ki no so to dpo wo n nc sc tc dc wc nm wn sv st dp _ (by omega) hnil.out h1 h2 h3 h4 h5).mono ?_
  rintro e w1 ⟨vo, rfl, hV, hb1⟩
  clear h1 h2 h3 h4 h5
  go_wp2_with fail
  refine (served_any gr ki vo n nm wn sv st dp _ hn hs hV).mono ?_
  rintro e w2 ⟨rfl, hb2⟩
  have hB : Below w.heap.size w w2 := hb1.trans (hb2.mono hb1.size)
  clear hV hb1 hb2
  go_wp2
  go_ret
  exact ⟨rfl, hB⟩

theorem zzBy_any (gr ki v : ByteArray) (no so to dpo wo : Option Addr) (n nc sc tc dc wc : Nat) (nm wn : Nat → ByteArray) (sv st dp : Nat → Bool) (w : World) (hn : n ≤ 65536) (hs : sumB nm n ≤ 1048576) (hw : Hid (∀ i, i < n → (wn i).size ≤ 1048576))
    (hnil : Hid (no = none → n = 0)) (h1 : StrsAt w no n nm) (h2 : BoolsAt w so n sv) (h3 : BoolsAt w to n st) (h4 : BoolsAt w dpo n dp) (h5 : StrsAt w wo n wn) :
    Calls Try.prog 15 #[.string gr, .string ki, .slice no n nc, .slice so n sc, .slice to n tc, .slice dpo n dc, .slice wo n wc, .string v] w fun e w' =>
      ∃ S M, e = .returned (.tuple #[.string S, .string M]) ∧ ByOut nm wn sv dp n v S M ∧ Below w.heap.size w w' := by
  go_enter Try.func15, Try.ntmps15
  go_wp2_with fail
  refine (crd_any gr ki no so to dpo wo n nc sc tc dc wc nm wn sv st dp _ (by omega) hnil.out h1 h2 h3 h4 h5).mono ?_
  rintro e w1 ⟨vo, rfl, hV, hb1⟩
  clear h1 h2 h3 h4 h5
  go_wp2_with fail
  refine (byCRD_any gr ki v vo n nm wn sv st dp _ hn hs hw hV).mono ?_
  rintro e w2 ⟨S, M, rfl, hO, hb2⟩
  have hB : Below w.heap.size w w2 := hb1.trans (hb2.mono hb1.size)
  have HO := Hid.mkk hO
  clear hV hb1 hb2 hO
  go_wp2
  go_ret2
  exact ⟨S, M, rfl, HO.out, hB⟩
end Go.Proofs.Qxb6602758a
