/-
  strings.Join at this program, out of the kit's shelf (lay-shelf.mjs, then lay-plain.mjs): no walk.
-/
import Derived.Shelf.Strings.OnBuilder
import Derived.Test.Qxb6602758aProg
namespace Go.Proofs
open Go.Shelf
def Try.lays156_ren : Go.Shelf.Ren := ⟨fun | 156 => 21 | 165 => 23 | 166 => 24 | 169 => 25 | 240 => 26 | 241 => 27 | 276 => 28 | 277 => 29 | n => n, fun | 31 => 22 | 9 => 9 | 3 => 3 | 4 => 4 | 0 => 0 | 20 => 20 | 72 => 51 | 76 => 55 | 70 => 48 | 37 => 49 | 75 => 54 | 127 => 58 | 164 => 59 | 5 => 5 | 80 => 57 | n => n, fun | n => n⟩
theorem Try.lays156 : Go.Proofs.Lays.n156 Try.prog Try.lays156_ren := {
  mixed := by kernel_rfl
  f156 := Try.func21.trans (congrArg some (by kernel_rfl))
  f165 := Try.func23.trans (congrArg some (by kernel_rfl))
  f166 := Try.func24.trans (congrArg some (by kernel_rfl))
  f169 := Try.func25.trans (congrArg some (by kernel_rfl))
  f240 := Try.func26.trans (congrArg some (by kernel_rfl))
  f241 := Try.func27.trans (congrArg some (by kernel_rfl))
  f276 := Try.func28.trans (congrArg some (by kernel_rfl))
  f277 := Try.func29.trans (congrArg some (by kernel_rfl))
  t0 := Try.underlying0
  a0 := Try.isAgg0
  z0 := Try.sizeOf0
  v0 := Try.zeroValue0
  t3 := Try.underlying3
  a3 := Try.isAgg3
  z3 := Try.sizeOf3
  v3 := Try.zeroValue3
  t4 := Try.underlying4
  a4 := Try.isAgg4
  z4 := Try.sizeOf4
  v4 := Try.zeroValue4
  t9 := Try.underlying9
  a9 := Try.isAgg9
  z9 := Try.sizeOf9
  v9 := Try.zeroValue9
  t20 := Try.underlying20
  a20 := Try.isAgg20
  z20 := Try.sizeOf20
  v20 := Try.zeroValue20
  t31 := Try.underlying22
  a31 := Try.isAgg22
  z31 := Try.sizeOf22
  v31 := Try.zeroValue22
  t37 := Try.underlying49
  a37 := Try.isAgg49
  z37 := Try.sizeOf49
  v37 := Try.zeroValue49
  t70 := Try.underlying48
  a70 := Try.isAgg48
  z70 := Try.sizeOf48
  v70 := Try.zeroValue48
  t72 := Try.underlying51
  a72 := Try.isAgg51
  z72 := Try.sizeOf51
  v72 := Try.zeroValue51
  t75 := Try.underlying54
  a75 := Try.isAgg54
  z75 := Try.sizeOf54
  v75 := Try.zeroValue54
  t76 := Try.underlying55
  a76 := Try.isAgg55
  z76 := Try.sizeOf55
  v76 := Try.zeroValue55
  t127 := Try.underlying58
  a127 := Try.isAgg58
  z127 := Try.sizeOf58
  v127 := Try.zeroValue58
  t164 := Try.underlying59
  a164 := Try.isAgg59
  z164 := Try.sizeOf59
  v164 := Try.zeroValue59 }
theorem Try.Builder_Extra_156 : Builder.Extra Try.prog Try.lays156_ren := {
  sizeBuilder := by kernel_rfl
  liesBuilder := by kernel_rfl
  t5 := Try.underlying5
  a5 := Try.isAgg5
  z5 := Try.sizeOf5
  v5 := Try.zeroValue5
  infoByte := by kernel_rfl
  cellsByte := by kernel_rfl
  sizeByte := by kernel_rfl
  neB5 := by decide }
open Go.RowKit in
/-- No element: the empty string; the world is as it was. -/
theorem Try.strings_Join_none (a : Option Addr) (c : Nat) (sep : ByteArray) (w : World) :
    Calls Try.prog 21 #[.slice a 0 c, .string sep] w fun e w' => e = .returned (.string ⟨#[]⟩) ∧ w' = w := Any.strings_Join_none Try.lays156 Try.Builder_Extra_156 a c sep w
open Go.RowKit in
/-- The elements, the separator between each two. Below the heap's end the world is as it was. -/
theorem Try.strings_Join (bk o c : Nat) (xs : List ByteArray) (sep : ByteArray) (w : World) (hcells : ∀ (j : Nat) x, xs[j]? = some x → w.cell? ⟨bk, o + j, none⟩ = some (.string x)) (hbk : bk < w.heap.size) (hN : xs.length ≤ 140737488355328) (hcap : xs.length ≤ c) (hlen : (Lib.join (xs.map (·.data.toList)) sep.data.toList).length ≤ 140737488355328) :
    Calls Try.prog 21 #[.slice (some ⟨bk, o, none⟩) xs.length c, .string sep] w fun e w' => e = .returned (.string ⟨(Lib.join (xs.map (·.data.toList)) sep.data.toList).toArray⟩) ∧ Below w.heap.size w w' := Any.strings_Join Try.lays156 Try.Builder_Extra_156 bk o c xs sep w hcells hbk hN hcap hlen
end Go.Proofs
