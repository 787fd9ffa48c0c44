/-
  'scan.servedInstead' (function 18), walked once.
-/
import Derived.Test.Qxb6602758aVersion
import Derived.Test.Qxb6602758aShelf
import Derived.Test.Qxb6602758aSrv
namespace Go.Proofs.Qxb6602758a
open Go.RowKit Go.PlainAid
set_option linter.unusedVariables false

set_option maxRecDepth 100000 in
set_option maxHeartbeats 4000000 in
theorem served_any (gr ki : ByteArray) (vo : Option Addr) (n : Nat) (nm wn : Nat → ByteArray) (sv st dp : Nat → Bool) (w : World) (hn : n ≤ 65536) (hs : sumB nm n ≤ 1048576) (hV : VersAt w vo n nm wn sv st dp) :
    Calls Try.prog 18 #[.agg #[.string gr, .string ki, .slice vo n n]] w fun e w' => e = .returned (.string (siB nm sv dp n)) ∧ Below w.heap.size w w' := by
  obtain ⟨i0, hi, hz0, hz1, hz2⟩ := info_parts Try.info9
  go_enter Try.func18, Try.ntmps18
  go_wp2
  go_loopw [3, 9] (fun v i wr => ∃ k : Nat, k ≤ n ∧ i = .int .i64 k ∧ wr.ownsRow (w.heap.size + 1) 9 1 v (srv nm sv dp k).length ((srv nm sv dp k).map Value.string) ∧ Below w.heap.size w wr ∧ w.heap.size + 1 ≤ wr.heap.size) (fun _ i _ => n - (intOf i).toNat)
  case atStart => exact ⟨0, Nat.zero_le _, rfl, World.ownsRow_nil _ _ _ _, (Below.refl _ _).alloc (Nat.le_refl _) _, by simp⟩
  case round =>
    obtain ⟨k, hk, rfl, hown, hb, hsz⟩ := hrel
    by_cases hlt : k < n
    · obtain ⟨g, e, hg, c0, c1, c2, c3, c4, c5⟩ := (hV.below hb).six hlt
      subst e
      have hlen := srv_len nm sv dp k
      rcases (show (sv k = true ∧ dp k = false) ∨ sv k = false ∨ (sv k = true ∧ dp k = true) from by
        cases sv k <;> cases dp k <;> simp) with ⟨hs1, hd1⟩ | hs1 | ⟨hs1, hd1⟩
      · have HS := Hid.mkk (srv_yes (nm := nm) hs1 hd1)
        rw [hs1] at c1
        rw [hd1] at c3
        clear hV
        go_wp2_with (at_builtin; refine wpList_append_own _ rfl (.tmp 20) (.tmp 23) 22 rfl (w.heap.size + 1) 9 i0 (.string ⟨#[]⟩) 1 16 Try.underlying22 hi hz0 hz1 hz2 rfl (by decide) _ _ _ rfl ((hown.alloc _).alloc _) ⟨wr.heap.size + 1, 0, none⟩ 1 1 [.string (nm k)] rfl rfl ?c1 ?c2 ?c3 ?c4 ?c5 ?_)
        case c1 =>
          intro j u hj
          match j, hj with
          | 0, hj => simp at hj; subst hj; simp [Addr.add]
        case c2 => intro u hu; simp at hu; subst hu; rfl
        case c3 => unfold maxLen; omega
        case c4 => omega
        case c5 => simp; omega
        · intro v' w1 hown' hgrow _
          have hb1 : Below w.heap.size w w1 := ((hb.alloc hb.size _).alloc (by simp; have := hb.size; omega) _).grown hgrow (by simp; have := hb.size; omega) (fun r hr => by have := (hown.lt r hr).1; omega)
          have hsz1 : w.heap.size + 1 ≤ w1.heap.size := by have := hgrow.size; simp at this; omega
          have hown2 : w1.ownsRow (w.heap.size + 1) 9 1 v' (srv nm sv dp (k + 1)).length ((srv nm sv dp (k + 1)).map Value.string) := by
            rw [HS.out]; simpa using hown'
          clear hown' hgrow hown
          go_wp2
          go_roundw
          case rel => exact ⟨k + 1, by omega, by go_num, hown2, hb1, hsz1⟩
          case measure => simp [intOf]; omega
      · have HS := Hid.mkk (srv_no (nm := nm) (sv := sv) (dp := dp) (k := k) (.inl hs1))
        rw [hs1] at c1
        clear hV
        go_wp2
        go_roundw
        case rel => exact ⟨k + 1, by omega, by go_num, by rw [HS.out]; exact hown.alloc _, hb.alloc hb.size _, by simp; omega⟩
        case measure => simp [intOf]; omega
      · have HS := Hid.mkk (srv_no (nm := nm) (sv := sv) (dp := dp) (k := k) (.inr hd1))
        rw [hs1] at c1
        rw [hd1] at c3
        clear hV
        go_wp2
        go_roundw
        case rel => exact ⟨k + 1, by omega, by go_num, by rw [HS.out]; exact hown.alloc _, hb.alloc hb.size _, by simp; omega⟩
        case measure => simp [intOf]; omega
    · have hkn : k = n := by omega
      subst hkn
      clear hV
      rcases hown.2 with ⟨rfl, hl⟩ | ⟨g, cap, cur, rfl, hg1, hg2, hg3, hg4, hg5, hg6⟩
      · have HE : Hid (siB nm sv dp k = noneB) := by
          unfold siB; rw [List.length_eq_zero_iff.1 hl]; rfl
        go_wp2
        go_ret
        exact ⟨by rw [HE.out]; rfl, hb⟩
      · by_cases hl : (srv nm sv dp k).length = 0
        · have HE : Hid (siB nm sv dp k = noneB) := by
            unfold siB; rw [List.length_eq_zero_iff.1 hl]; rfl
          have hl' : (((srv nm sv dp k).length : Int) == 0) = true := by simp [hl]
          go_wp2
          go_ret
          exact ⟨by rw [HE.out]; rfl, hb⟩
        · have hl' : (((srv nm sv dp k).length : Int) == 0) = false := beq_eq_false_iff_ne.2 (by omega)
          have hlen := srv_len nm sv dp k
          have HE : Hid (siB nm sv dp k = ((⟨#[117, 115, 101, 32]⟩ : ByteArray) ++ joinB (srv nm sv dp k)) ++ (⟨#[32, 105, 110, 115, 116, 101, 97, 100]⟩ : ByteArray)) := by
            have : (srv nm sv dp k).isEmpty = false := by
              cases h : srv nm sv dp k with
              | nil => rw [h] at hl; simp at hl
              | cons _ _ => rfl
            unfold siB; rw [this]; rfl
          have hjs := joinB_size nm sv dp k
          have hjl : (Lib.join ((srv nm sv dp k).map (·.data.toList)) (⟨#[32, 111, 114, 32]⟩ : ByteArray).data.toList).length ≤ 140737488355328 := by
            have : (joinB (srv nm sv dp k)).size = (Lib.join ((srv nm sv dp k).map (·.data.toList)) [32, 111, 114, 32]).length := by simp [joinB, ByteArray.size]
            show (Lib.join ((srv nm sv dp k).map (·.data.toList)) [32, 111, 114, 32]).length ≤ _
            omega
          have hcl : ∀ (j : Nat) x, (srv nm sv dp k)[j]? = some x → wr.cell? ⟨g, 0 + j, none⟩ = some (.string x) := by
            intro j x hj
            have hjl : j < (srv nm sv dp k).length := (List.getElem?_eq_some_iff.1 hj).1
            rw [Nat.zero_add, hown.cellAt j (by omega), List.getElem?_map, hj]; rfl
          have hgl : g < wr.heap.size := (Array.getElem?_eq_some_iff.1 hg2).1
          have HCL := Hid.mkk hcl
          clear hcl hg2 hg4 hg5 hg6 hown
          go_wp2_with fail
          refine (Try.strings_Join g 0 cap (srv nm sv dp k) ⟨#[32, 111, 114, 32]⟩ wr HCL.out hgl (by omega) hg3 hjl).mono ?_
          rintro e w1 ⟨rfl, hb1⟩
          have hB : Below w.heap.size w w1 := hb.trans (hb1.mono (by omega))
          rw [show (⟨(Lib.join ((srv nm sv dp k).map (·.data.toList)) (⟨#[32, 111, 114, 32]⟩ : ByteArray).data.toList).toArray⟩ : ByteArray) = joinB (srv nm sv dp k) from rfl]
          generalize joinB (srv nm sv dp k) = J at HE hjs ⊢
          clear hjl HCL hb1
          go_wp2
          go_ret
          exact ⟨by rw [HE.out]; rfl, hB⟩
end Go.Proofs.Qxb6602758a
