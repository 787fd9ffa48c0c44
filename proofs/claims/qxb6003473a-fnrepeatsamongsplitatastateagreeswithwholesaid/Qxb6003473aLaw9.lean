/-
  The walk of 'FnRepeatsAmongSplitAtAStateAgreesWithWhole' (function 9).
-/
import Derived.Test.Qxb6003473aApart
import Derived.Test.Qxb6003473aDeal
namespace Go.Proofs.Qxb6003473a
open Go.RowKit Go.PlainAid
set_option linter.unusedVariables false

theorem bytes24 (mo : Option Addr) (n mc : Nat) (ns cut : Int) (w : World) (h : n ≤ 1048576) :
    Calls Try.prog 24 #[.slice mo n mc, .int .i64 ns, .int .i64 cut] w fun e w' => e = .returned (.bool true) ∧ w = w' := by
  go_enter Try.func24, Try.ntmps24
  go_wp2
  go_ret
  exact ⟨rfl, rfl⟩

set_option maxRecDepth 100000 in
theorem law9_out (mo : Option Addr) (n mc : Nat) (ns cut : Int) (w : World) (hn : n ≤ maxLen)
    (hout : ¬ (n ≤ 65536 ∧ 0 ≤ ns ∧ ns ≤ 65536 ∧ 0 ≤ cut ∧ cut ≤ ns)) :
    Calls Try.prog 9 #[.slice mo n mc, .int .i64 ns, .int .i64 cut] w fun e w' => e = .returned (.bool true) ∧ Below w.heap.size w w' := by
  unfold maxLen at hn
  go_enter Try.func9, Try.ntmps9
  go_wp2
  all_goals (go_ret; exact ⟨rfl, Below.refl _ _⟩)

set_option maxRecDepth 100000 in
set_option maxHeartbeats 4000000 in
theorem law9_bad (mo : Option Addr) (n mc N c : Nat) (f g : Nat → Int) (w : World) (hn : n ≤ 65536) (hN : N ≤ 65536) (hc : c ≤ N) (hp : PairsAt w mo n f g)
    (hx : Hid (¬ ∀ j, j < n → (0 ≤ f j ∧ f j < (N : Int)) ∧ 0 ≤ g j ∧ g j < (N : Int))) :
    Calls Try.prog 9 #[.slice mo n mc, .int .i64 (N : Int), .int .i64 (c : Int)] w fun e w' => e = .returned (.bool true) ∧ Below w.heap.size w w' := by
  have d1 : decide ((65536 : Int) < (n : Int)) = false := decide_eq_false (by omega)
  have d2 : decide ((65536 : Int) < (N : Int)) = false := decide_eq_false (by omega)
  have d3 : decide ((N : Int) < 0) = false := decide_eq_false (by omega)
  have d4 : decide ((c : Int) < 0) = false := decide_eq_false (by omega)
  have d5 : decide ((N : Int) < (c : Int)) = false := decide_eq_false (by omega)
  go_enter Try.func9, Try.ntmps9
  go_wp2_with (go_at_call 24; refine (bytes24 _ _ _ _ _ _ (by omega)).mono ?_; rintro e w' ⟨rfl, rfl⟩)
  go_loop [7] (fun i => ∃ k : Nat, k ≤ n ∧ i = .int .i64 k ∧ Hid (∀ j, j < k → (0 ≤ f j ∧ f j < (N : Int)) ∧ 0 ≤ g j ∧ g j < (N : Int))) (fun i => n - (intOf i).toNat)
  case atStart => exact ⟨0, Nat.zero_le _, rfl, fun j hj => by omega⟩
  case round =>
    obtain ⟨k, hk, rfl, HK⟩ := hrel
    have hlt : k < n := by
      by_cases e : k < n
      · exact e
      · exact absurd (fun j hj => HK.out j (by omega)) hx.out
    obtain ⟨b, off, e, hc1, hc2⟩ := hp k hlt
    subst e
    by_cases hr0 : 0 ≤ f k
    · by_cases hr1 : f k < (N : Int)
      · by_cases hr2 : 0 ≤ g k
        · by_cases hr3 : g k < (N : Int)
          · go_wp2
            go_round
            case rel => exact ⟨k + 1, by omega, by go_num, (fun j hj => by
              by_cases e : j = k
              · subst e; exact ⟨⟨hr0, hr1⟩, hr2, hr3⟩
              · exact HK.out j (by omega))⟩
            case measure => simp [intOf]; omega
          · go_wp2
            go_ret
            exact ⟨rfl, Below.refl _ _⟩
        · go_wp2
          go_ret
          exact ⟨rfl, Below.refl _ _⟩
      · go_wp2
        go_ret
        exact ⟨rfl, Below.refl _ _⟩
    · go_wp2
      go_ret
      exact ⟨rfl, Below.refl _ _⟩

set_option maxRecDepth 100000 in
set_option maxHeartbeats 4000000 in
theorem law9_good (mo : Option Addr) (n mc N c : Nat) (f g : Nat → Int) (w : World) (hn : n ≤ 65536) (hN : N ≤ 65536) (hc : c ≤ N) (hm0 : Hid (mo = none → n = 0)) (hp : PairsAt w mo n f g)
    (hx : Hid (∀ j, j < n → InR f N j ∧ InR g N j)) :
    Calls Try.prog 9 #[.slice mo n mc, .int .i64 (N : Int), .int .i64 (c : Int)] w fun e w' => e = .returned (.bool true) ∧ Below w.heap.size w w' := by
  have d1 : decide ((65536 : Int) < (n : Int)) = false := decide_eq_false (by omega)
  have d2 : decide ((65536 : Int) < (N : Int)) = false := decide_eq_false (by omega)
  have d3 : decide ((N : Int) < 0) = false := decide_eq_false (by omega)
  have d4 : decide ((c : Int) < 0) = false := decide_eq_false (by omega)
  have d5 : decide ((N : Int) < (c : Int)) = false := decide_eq_false (by omega)
  go_enter Try.func9, Try.ntmps9
  go_wp2_with (go_at_call 24; refine (bytes24 _ _ _ _ _ _ (by omega)).mono ?_; rintro e w' ⟨rfl, rfl⟩)
  go_loop [7] (fun i => ∃ k : Nat, k ≤ n ∧ i = .int .i64 k) (fun i => n - (intOf i).toNat)
  case atStart => exact ⟨0, Nat.zero_le _, rfl⟩
  case round =>
    obtain ⟨k, hk, rfl⟩ := hrel
    by_cases hlt : k < n
    · obtain ⟨b, off, e, hc1, hc2⟩ := hp k hlt
      subst e
      obtain ⟨⟨hr0, hr1⟩, hr2, hr3⟩ := hx.out k hlt
      go_wp2
      go_round
      case rel => exact ⟨k + 1, by omega, by go_num⟩
      case measure => simp [intOf]; omega
    · go_wp2_with fail
      clear hlt hk
      refine (cloneMoves_any mo n mc f g (by omega) _ hm0.out hp).mono ?_
      rintro e w1 ⟨mo', rfl, -, hp1, hb1⟩
      go_wp2_with fail
      refine (zzDeal_any mo' none n n 0 0 N f g (fun _ => 0) f 0 N _ hn (by omega) (by omega) (by omega) hN (by omega) hp1 (fun i hi => by omega) (fun j hj h => by cases h) (fun j hj => by simp [atOf]) (fun j hj => by have := (hx.out j hj).1; unfold InR at this; omega)).mono ?_
      rintro e w2 ⟨g1, g2, o, rfl, hr1, hr2, hd, hb2⟩
      have hM := cLt_all f N n (fun j hj => (hx.out j hj).1)
      rw [hM] at hr2
      rw [hM]
      have hp2 := hp1.below hb2
      have hB2 : Below w.heap.size w w2 := hb1.trans (hb2.mono hb1.size)
      have HD : Hid (∀ j, j < n → atOf (some (⟨g2, 0, none⟩ : Addr)).isNone o (pos f n j : Nat) = j) := fun j hj => by
        have := hd j (Nat.zero_le _) hj (hx.out j hj).1
        simpa [atOf] using this
      have hcN : w2.cell? ⟨g1, N, none⟩ = some (.int .i64 (n : Int)) := by
        have := hr1.cell (i := N) (by omega)
        rwa [hM] at this
      have hmk := make_bools n (by omega)
      have hg1 := hr1.lt
      have hNN : (N : Int) < (N : Int) + 1 := by omega
      clear hp hp1 hb1 hb2 hm0 hd hM
      go_wp2_with fail
      -- the whole
      have hb3 : Below w2.heap.size w2 (w2.alloc (.cells (bools n (fun _ => false)) 4)) := (Below.refl _ _).alloc (Nat.le_refl _) _
      refine (zzRepeats mo' (some ⟨g2, 0, none⟩) _ n n n n _ _ 0 n w2.heap.size N 0 n f g o (fun _ => false) _ rfl rfl hN (by omega) (by omega) hn (hp2.below hb3) (hr2.at.below hb3) (RowB.new _ _ _) (fun _ => rfl) hx.out HD.out).mono ?_
      rintro e w3 ⟨rfl, rep3, hR3, hE3, hA3⟩
      have HE3 := Hid.mkk hE3
      have hp3 := (hp2.below hb3).apart (RowB.new _ _ _) hA3
      have hr13 := (hr1.same (hb3.block g1 hr1.lt)).apart (RowB.new _ _ _) hA3
      have hr23 := (hr2.same (hb3.block g2 hr2.lt)).apart (RowB.new _ _ _) hA3
      have hB3 : Below w.heap.size w w3 := (hB2.alloc hB2.size _).trans (hA3.below hB2.size (by simpa using Nat.le_succ_of_le hB2.size))
      have hW3 := hR3.lt
      clear hE3 hcN hp2 hr1 hr2 hb3 hA3 hg1
      have hcN : w3.cell? ⟨g1, N, none⟩ = some (.int .i64 (n : Int)) := by
        have := hr13.cell (i := N) (by omega)
        rwa [cLt_all f N n (fun j hj => (hx.out j hj).1)] at this
      have hcc : w3.cell? ⟨g1, c, none⟩ = some (.int .i64 (cLt f c n : Int)) := hr13.cell (i := c) (by omega)
      have hmid := cLt_le f c n
      have hcc' : (c : Int) < (N : Int) + 1 := by omega
      have hg13 := hr13.lt
      go_wp2_with fail
      -- the later part
      have hb4 : Below w3.heap.size w3 (w3.alloc (.cells (bools n (fun _ => false)) 4)) := (Below.refl _ _).alloc (Nat.le_refl _) _
      refine (zzRepeats mo' (some ⟨g2, 0, none⟩) _ n n n n _ _ (cLt f c n) n w3.heap.size N _ n f g o (fun _ => false) _ rfl rfl hN (by omega) (by omega) hn (hp3.below hb4) (hr23.at.below hb4) (RowB.new _ _ _) (fun _ => rfl) hx.out HD.out).mono ?_
      rintro e w4 ⟨rfl, rep4, hR4, hE4, hA4⟩
      have HE4 := Hid.mkk hE4
      have hp4 := (hp3.below hb4).apart (RowB.new _ _ _) hA4
      have hr24 := (hr23.same (hb4.block g2 hr23.lt)).apart (RowB.new _ _ _) hA4
      have hR34 := (hR3.same (hb4.block _ hR3.lt)).apart (by omega) hA4
      have hB4 : Below w.heap.size w w4 := (hB3.alloc hB3.size _).trans (hA4.below hB3.size (by simpa using Nat.le_succ_of_le hB3.size))
      clear hE4 hcN hcc hp3 hr13 hr23 hb4 hA4
      go_wp2_with fail
      -- the earlier part
      refine (zzRepeats mo' (some ⟨g2, 0, none⟩) _ n n n n _ _ 0 (cLt f c n) w3.heap.size N 0 _ f g o rep4 _ rfl rfl hN (by omega) (by omega) hn hp4 hr24.at hR4 (fun _ => rfl) hx.out HD.out).mono ?_
      rintro e w5 ⟨rfl, rep5, hR5, hE5, hA5⟩
      have hR35 := hR34.apart (by omega) hA5
      have HB5 : Hid (Below w.heap.size w w5) := hB4.trans (hA5.below (by have := hB3.size; omega) hB4.size)
      have HEQ : Hid (∀ x, x < n → rep3 x = rep5 x) := by
        intro x hx'
        rw [Bool.eq_iff_iff, HE3.out x hx', hE5 x hx']
        exact (split_same (S := N) ⟨fun j hj => (hx.out j hj).1, fun j hj => by unfold mvOf; rw [HD.out j hj]; simp⟩ HE4.out x hx').symm
      clear hE5 hA5 hB4 hR34 hr24 hp4 hR4 hB3 hB2 hmk
      go_wp2
      go_loopw [13] (fun i wr => ∃ k q : Nat, k ≤ n ∧ i = .int .i64 k ∧ wr = w5.drewN q) (fun i _ => n - (intOf i).toNat)
      case atStart => exact ⟨0, 0, Nat.zero_le _, rfl, rfl⟩
      case round =>
        obtain ⟨k, q, hk, rfl, rfl⟩ := hrel
        by_cases hlt : k < n
        · obtain ⟨b, hcb, hcb'⟩ : ∃ b, w5.cell? ⟨w2.heap.size, k, none⟩ = some (.bool b) ∧ w5.cell? ⟨w3.heap.size, k, none⟩ = some (.bool b) := ⟨_, hR35.cell hlt, by rw [HEQ.out k hlt]; exact hR5.cell hlt⟩
          have hi1 : (k : Int) < (n : Int) := by omega
          have hne : (b != b) = false := by simp
          go_wp2
          go_quiet (fail)
          go_wp2
          go_roundw
          case rel => exact ⟨k + 1, _, by omega, by go_num, by first | rfl | exact World.drewN_drewN _ _ _⟩
          case measure => simp [intOf]; omega
        · go_wp2
          go_ret
          exact ⟨rfl, below_drewN HB5.out _⟩

/-- The walk, whole. -/
theorem law9_walk (mo : Option Addr) (n mc : Nat) (ns cut : Int) (f g : Nat → Int) (w : World) (hm0 : mo = none → n = 0 ∧ mc = 0) (hnm : n ≤ maxLen) (hp : PairsAt w mo n f g) :
    Calls Try.prog 9 #[.slice mo n mc, .int .i64 ns, .int .i64 cut] w fun e w' => e = .returned (.bool true) ∧ Below w.heap.size w w' := by
  by_cases hok : n ≤ 65536 ∧ 0 ≤ ns ∧ ns ≤ 65536 ∧ 0 ≤ cut ∧ cut ≤ ns
  · obtain ⟨h1, h2, h3, h4, h5⟩ := hok
    obtain ⟨N, rfl⟩ := Int.eq_ofNat_of_zero_le h2
    obtain ⟨c, rfl⟩ := Int.eq_ofNat_of_zero_le h4
    by_cases hin : ∀ j, j < n → (0 ≤ f j ∧ f j < (N : Int)) ∧ 0 ≤ g j ∧ g j < (N : Int)
    · exact law9_good mo n mc N c f g w h1 (by omega) (by omega) (fun h => (hm0 h).1) hp hin
    · exact law9_bad mo n mc N c f g w h1 (by omega) (by omega) hp hin
  · exact law9_out mo n mc ns cut w hnm hok
end Go.Proofs.Qxb6003473a
