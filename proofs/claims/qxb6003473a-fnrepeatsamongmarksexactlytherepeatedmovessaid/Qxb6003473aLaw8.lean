/-
  The walk of 'FnRepeatsAmongMarksExactlyTheRepeatedMoves' (function 8).
-/
import Derived.Test.Qxb6003473aApart
import Derived.Test.Qxb6003473aGroup
namespace Go.Proofs.Qxb6003473a
open Go.RowKit Go.PlainAid
set_option linter.unusedVariables false

theorem bytes22 (mo : Option Addr) (n mc : Nat) (ns : Int) (w : World) (h : n ≤ 1048576) :
    Calls Try.prog 22 #[.slice mo n mc, .int .i64 ns] w fun e w' => e = .returned (.bool true) ∧ w = w' := by
  go_enter Try.func22, Try.ntmps22
  go_wp2
  go_ret
  exact ⟨rfl, rfl⟩

set_option maxRecDepth 100000 in
theorem law8_out (mo : Option Addr) (n mc : Nat) (ns : Int) (w : World) (hn : n ≤ maxLen)
    (hout : ¬ (n ≤ 2048 ∧ 0 ≤ ns ∧ ns ≤ 65536)) :
    Calls Try.prog 8 #[.slice mo n mc, .int .i64 ns] w fun e w' => e = .returned (.bool true) ∧ Below w.heap.size w w' := by
  unfold maxLen at hn
  go_enter Try.func8, Try.ntmps8
  go_wp2
  all_goals (go_ret; exact ⟨rfl, Below.refl _ _⟩)

set_option maxRecDepth 100000 in
set_option maxHeartbeats 4000000 in
theorem law8_bad (mo : Option Addr) (n mc N : Nat) (f g : Nat → Int) (w : World) (hn : n ≤ 2048) (hN : N ≤ 65536) (hp : PairsAt w mo n f g)
    (hx : Hid (¬ ∀ j, j < n → (0 ≤ f j ∧ f j < (N : Int)) ∧ 0 ≤ g j ∧ g j < (N : Int))) :
    Calls Try.prog 8 #[.slice mo n mc, .int .i64 (N : Int)] w fun e w' => e = .returned (.bool true) ∧ Below w.heap.size w w' := by
  have d1 : decide ((2048 : Int) < (n : Int)) = false := decide_eq_false (by omega)
  have d2 : decide ((65536 : Int) < (N : Int)) = false := decide_eq_false (by omega)
  have d3 : decide ((N : Int) < 0) = false := decide_eq_false (by omega)
  go_enter Try.func8, Try.ntmps8
  go_wp2_with (go_at_call 22; refine (bytes22 _ _ _ _ _ (by omega)).mono ?_; rintro e w' ⟨rfl, rfl⟩)
  go_loop [5] (fun i => ∃ k : Nat, k ≤ n ∧ i = .int .i64 k ∧ Hid (∀ j, j < k → (0 ≤ f j ∧ f j < (N : Int)) ∧ 0 ≤ g j ∧ g j < (N : Int))) (fun i => n - (intOf i).toNat)
  case atStart => exact ⟨0, Nat.zero_le _, rfl, fun j hj => by omega⟩
  case round =>
    obtain ⟨k, hk, rfl, HK⟩ := hrel
    have hlt : k < n := by
      by_cases e : k < n
      · exact e
      · exact absurd (fun j hj => HK.out j (by omega)) hx.out
    obtain ⟨b, off, e, hc1, hc2⟩ := hp k hlt
    subst e
    by_cases hr0 : 0 ≤ f k
    · by_cases hr1 : f k < (N : Int)
      · by_cases hr2 : 0 ≤ g k
        · by_cases hr3 : g k < (N : Int)
          · go_wp2
            go_round
            case rel => exact ⟨k + 1, by omega, by go_num, (fun j hj => by
              by_cases e : j = k
              · subst e; exact ⟨⟨hr0, hr1⟩, hr2, hr3⟩
              · exact HK.out j (by omega))⟩
            case measure => simp [intOf]; omega
          · go_wp2
            go_ret
            exact ⟨rfl, Below.refl _ _⟩
        · go_wp2
          go_ret
          exact ⟨rfl, Below.refl _ _⟩
      · go_wp2
        go_ret
        exact ⟨rfl, Below.refl _ _⟩
    · go_wp2
      go_ret
      exact ⟨rfl, Below.refl _ _⟩

set_option maxRecDepth 100000 in
set_option maxHeartbeats 4000000 in
theorem law8_good (mo : Option Addr) (n mc N : Nat) (f g : Nat → Int) (w : World) (hn : n ≤ 2048) (hN : N ≤ 65536) (hm0 : Hid (mo = none → n = 0)) (hp : PairsAt w mo n f g)
    (hx : Hid (∀ j, j < n → InR f N j ∧ InR g N j)) :
    Calls Try.prog 8 #[.slice mo n mc, .int .i64 (N : Int)] w fun e w' => e = .returned (.bool true) ∧ Below w.heap.size w w' := by
  have d1 : decide ((2048 : Int) < (n : Int)) = false := decide_eq_false (by omega)
  have d2 : decide ((65536 : Int) < (N : Int)) = false := decide_eq_false (by omega)
  have d3 : decide ((N : Int) < 0) = false := decide_eq_false (by omega)
  go_enter Try.func8, Try.ntmps8
  go_wp2_with (go_at_call 22; refine (bytes22 _ _ _ _ _ (by omega)).mono ?_; rintro e w' ⟨rfl, rfl⟩)
  go_loop [5] (fun i => ∃ k : Nat, k ≤ n ∧ i = .int .i64 k) (fun i => n - (intOf i).toNat)
  case atStart => exact ⟨0, Nat.zero_le _, rfl⟩
  case round =>
    obtain ⟨k, hk, rfl⟩ := hrel
    by_cases hlt : k < n
    · obtain ⟨b, off, e, hc1, hc2⟩ := hp k hlt
      subst e
      obtain ⟨⟨hr0, hr1⟩, hr2, hr3⟩ := hx.out k hlt
      go_wp2
      go_round
      case rel => exact ⟨k + 1, by omega, by go_num⟩
      case measure => simp [intOf]; omega
    · go_wp2_with fail
      clear hlt hk
      refine (cloneMoves_any mo n mc f g (by omega) _ hm0.out hp).mono ?_
      rintro e w1 ⟨mo', rfl, -, hp1, hb1⟩
      go_wp2_with fail
      refine (zzGroup_any mo' none n n 0 0 N f g (fun _ => 0) f _ (by omega) (by omega) hN hp1 (fun i hi => by omega) (fun j hj h => by cases h) (fun j hj => by simp [atOf]) (fun j hj => (hx.out j hj).1)).mono ?_
      rintro e w2 ⟨g1, oo, m, o, rfl, hr1, hm0', hm1, hI2, hd, hb2⟩
      have hM := cLt_all f N n (fun j hj => (hx.out j hj).1)
      have hp2 := hp1.below hb2
      have hB2 : Below w.heap.size w w2 := hb1.trans (hb2.mono hb1.size)
      have HD := Hid.mkk hd
      have HM1 := Hid.mkk hm1
      have hcN : w2.cell? ⟨g1, N, none⟩ = some (.int .i64 (n : Int)) := by
        have := hr1.cell (i := N) (by omega)
        rwa [hM] at this
      have hmk := make_bools n (by omega)
      have hg1 := hr1.lt
      have hNN : (N : Int) < (N : Int) + 1 := by omega
      clear hp hp1 hb1 hb2 hm0 hd hM hm0' hm1
      go_wp2_with fail
      have hb3 : Below w2.heap.size w2 (w2.alloc (.cells (bools n (fun _ => false)) 4)) := (Below.refl _ _).alloc (Nat.le_refl _) _
      refine (zzRepeats mo' oo _ n n m m _ _ 0 n w2.heap.size N 0 n f g o (fun _ => false) _ rfl rfl hN (by omega) (by omega) (by omega) (hp2.below hb3) (hI2.below hb3) (RowB.new _ _ _) HM1.out hx.out HD.out).mono ?_
      rintro e w3 ⟨rfl, rep3, hR3, hE3, hA3⟩
      have hp3 := (hp2.below hb3).apart (RowB.new _ _ _) hA3
      have HB3 : Hid (Below w.heap.size w w3) := (hB2.alloc hB2.size _).trans (hA3.below hB2.size (by simpa using Nat.le_succ_of_le hB2.size))
      have HEQ : Hid (∀ x, x < n → (rep3 x = true ↔ ∃ j, j < x ∧ f j = f x ∧ g j = g x)) := by
        intro x hx'
        rw [hE3 x hx']
        exact marks_exact (S := N) ⟨fun j hj => (hx.out j hj).1, fun j hj => by unfold mvOf; rw [HD.out j hj]; simp⟩ (fun _ => rfl) x hx'
      clear hE3 hcN hp2 hr1 hb3 hA3 hg1 hI2 hmk hB2
      go_wp2
      go_loopw [9] (fun i wr => ∃ k q : Nat, k ≤ n ∧ i = .int .i64 k ∧ wr = w3.drewN q) (fun i _ => n - (intOf i).toNat)
      case atStart => exact ⟨0, 0, Nat.zero_le _, rfl, rfl⟩
      case round =>
        obtain ⟨k, q, hk, rfl, rfl⟩ := hrel
        by_cases hlt : k < n
        · obtain ⟨b, off, e, hc1, hc2⟩ := hp3 k hlt
          subst e
          have hcr := hR3.cell hlt
          have hki : (k : Int) < (n : Int) := by omega
          go_wp2
          go_loopw [10, 11] (fun u10 u11 wr => ∃ j q : Nat, j ≤ k ∧ u11 = .int .i64 j ∧ u10 = .bool false ∧ Hid (∀ l, l < j → ¬ (f l = f k ∧ g l = g k)) ∧ wr = w3.drewN q) (fun _ j _ => k - (intOf j).toNat)
          case atStart => exact ⟨0, q, Nat.zero_le _, rfl, rfl, fun l hl => by omega, rfl⟩
          case round =>
            obtain ⟨j, q, hj, rfl, rfl, HJ, rfl⟩ := hrel
            by_cases hjk : j < k
            · obtain ⟨b', off', e, hd1, hd2⟩ := hp3 j (by omega)
              obtain ⟨rfl, rfl⟩ : b = b' ∧ off = off' := by simpa using e
              clear e
              have hji : (j : Int) < (n : Int) := by omega
              by_cases h1 : f j = f k
              · have hb1 : (f j == f k) = true := by simpa using h1
                by_cases h2 : g j = g k
                · have hb2 : (g j == g k) = true := by simpa using h2
                  have HT : Hid (rep3 k = true) := (HEQ.out k hlt).2 ⟨j, hjk, h1, h2⟩
                  rw [HT.out] at hcr
                  clear h1 h2
                  go_wp2
                  go_quiet (fail)
                  go_wp2
                  go_roundw
                  case rel => exact ⟨k + 1, _, by omega, by go_num, by first | rfl | exact World.drewN_drewN _ _ _⟩
                  case measure => simp [intOf]; omega
                · have hb2 : (g j == g k) = false := by simpa using h2
                  clear h1
                  go_wp2
                  go_quiet (fail)
                  go_wp2
                  go_roundw
                  case rel => exact ⟨j + 1, _, by omega, by go_num, rfl, (fun l hl hh => by
                    by_cases el : l = j
                    · subst el; exact h2 hh.2
                    · exact HJ.out l (by omega) hh), by first | rfl | exact World.drewN_drewN _ _ _⟩
                  case measure => simp [intOf]; omega
              · have hb1 : (f j == f k) = false := by simpa using h1
                go_wp2
                go_quiet (fail)
                go_wp2
                go_roundw
                case rel => exact ⟨j + 1, _, by omega, by go_num, rfl, (fun l hl hh => by
                  by_cases el : l = j
                  · subst el; exact h1 hh.1
                  · exact HJ.out l (by omega) hh), by first | rfl | exact World.drewN_drewN _ _ _⟩
                case measure => simp [intOf]; omega
            · have HT : Hid (rep3 k = false) := by
                cases hr : rep3 k
                · rfl
                · obtain ⟨l, a1, a2, a3⟩ := (HEQ.out k hlt).1 hr
                  exact absurd ⟨a2, a3⟩ (HJ.out l (by omega))
              rw [HT.out] at hcr
              go_wp2
              go_roundw
              case rel => exact ⟨k + 1, _, by omega, by go_num, by first | rfl | exact World.drewN_drewN _ _ _⟩
              case measure => simp [intOf]; omega
        · go_wp2
          go_ret
          exact ⟨rfl, below_drewN HB3.out _⟩

/-- The walk, whole. -/
theorem law8_walk (mo : Option Addr) (n mc : Nat) (ns : Int) (f g : Nat → Int) (w : World) (hm0 : mo = none → n = 0 ∧ mc = 0) (hnm : n ≤ maxLen) (hp : PairsAt w mo n f g) :
    Calls Try.prog 8 #[.slice mo n mc, .int .i64 ns] w fun e w' => e = .returned (.bool true) ∧ Below w.heap.size w w' := by
  by_cases hok : n ≤ 2048 ∧ 0 ≤ ns ∧ ns ≤ 65536
  · obtain ⟨h1, h2, h3⟩ := hok
    obtain ⟨N, rfl⟩ := Int.eq_ofNat_of_zero_le h2
    by_cases hin : ∀ j, j < n → (0 ≤ f j ∧ f j < (N : Int)) ∧ 0 ≤ g j ∧ g j < (N : Int)
    · exact law8_good mo n mc N f g w h1 (by omega) (fun h => (hm0 h).1) hp hin
    · exact law8_bad mo n mc N f g w h1 (by omega) hp hin
  · exact law8_out mo n mc ns w hnm hok
end Go.Proofs.Qxb6003473a
