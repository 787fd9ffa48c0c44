/-
  The walk of 'FnDealMovesBucketsEachMoveOfTheRangeOnceInOrder' (function 6).
-/
import Derived.Test.Qxb6003473aDeal
namespace Go.Proofs.Qxb6003473a
open Go.RowKit Go.PlainAid
set_option linter.unusedVariables false

theorem neqnil26 (a : Option Addr) (n c : Nat) (w : World) : Sem.run Try.prog (binOp BinOp.neq 26 (.slice a n c) (.slice none 0 0)) w = .ok (.bool (!a.isNone)) w :=
  run_neq_slice_nil_any w 26 3 a n c 0 0 Try.underlying26

set_option maxRecDepth 100000 in
theorem law6_out (mo ao : Option Addr) (n mc na ac : Nat) (lo hi : Int) (w : World) (hn : n ≤ maxLen) (hna : na ≤ maxLen)
    (hlo : -9223372036854775808 ≤ lo ∧ lo ≤ 9223372036854775807) (hhi : -9223372036854775808 ≤ hi ∧ hi ≤ 9223372036854775807)
    (hout : ¬ (n ≤ 65536 ∧ na ≤ 131072 ∧ 16 * n + 8 * na ≤ 1048576 ∧ 0 ≤ lo ∧ lo ≤ hi ∧ hi - lo ≤ 65536)) :
    Calls Try.prog 6 #[.slice mo n mc, .slice ao na ac, .int .i64 lo, .int .i64 hi] w fun e w' => e = .returned (.bool true) ∧ Below w.heap.size w w' := by
  unfold maxLen at hn hna
  go_enter Try.func6, Try.ntmps6
  go_wp2
  all_goals (go_ret; exact ⟨rfl, Below.refl _ _⟩)

set_option maxRecDepth 100000 in
set_option maxHeartbeats 4000000 in
theorem law6_nil (mo : Option Addr) (n mc : Nat) (S : Nat) (f g z : Nat → Int) (lo hi : Int) (w : World)
    (hn : n ≤ 65536) (hlo : 0 ≤ lo) (hhi : hi - lo = S) (hS : S ≤ 65536) (hmx : hi ≤ 9223372036854775807)
    (hm0 : mo = none → n = 0) (hp : PairsAt w mo n f g) (hI : IntsAt w (none : Option Addr) 0 z) (K : Nat → Int) (hx : Hid (∀ j, j < n → (none : Option Addr).isNone = false → 0 ≤ f j ∧ f j < (0 : Int)))
    (hv : Hid (∀ j, j < n → atOf (none : Option Addr).isNone z (f j) = K j + lo)) (hvb : Hid (∀ j, j < n → -9223372036854775808 ≤ K j + lo ∧ K j + lo ≤ 9223372036854775807)) :
    Calls Try.prog 6 #[.slice mo n mc, .slice none 0 0, .int .i64 lo, .int .i64 hi] w fun e w' => e = .returned (.bool true) ∧ Below w.heap.size w w' := by
  have hq := neqnil26
  have hh : lo ≤ hi := by omega
  have d1 : decide ((65536 : Int) < (n : Int)) = false := by simp; omega
  have d2 : decide ((1048576 : Int) < 16 * (n : Int)) = false := by simp; omega
  have d3 : decide (lo < 0) = false := by simp; omega
  have d4 : decide (hi < lo) = false := by simp; omega
  have d5 : decide ((65536 : Int) < (S : Int)) = false := by simp; omega
  go_enter Try.func6, Try.ntmps6
  go_wp2_with (go_at_call 14; go_in)
  refine (cloneMoves_any mo n mc f g (by omega) _ hm0 hp).mono ?_
  rintro e w1 ⟨mo', rfl, -, hp1, hb1⟩
  go_wp2_with fail
  refine (cloneInts_any (none : Option Addr) 0 0 z (by omega) _ (fun _ => rfl) (hI.below hb1)).mono ?_
  rintro e w2 ⟨ao', rfl, hnn, hI2, hb2⟩
  have hp2 := hp1.below hb2
  go_wp2_with fail
  refine (zzDeal_any mo' ao' n n 0 0 S f g z K lo hi _ hn (by omega) hlo hhi hS hmx hp2 hI2 (by rw [hnn]; exact hx.out) (by rw [hnn]; exact hv.out) hvb.out).mono ?_
  rintro e w3 ⟨g1, g2, o, rfl, hr1, hr2, hd, hb3⟩
  have HB : Hid (Below w.heap.size w w3) := (hb1.trans (hb2.mono hb1.size)).trans (hb3.mono (Nat.le_trans hb1.size hb2.size))
  have hp3 := hp2.below hb3
  have hI3 := hI2.below hb3
  have hM := cLt_le K S n
  have hc0 : w3.cell? ⟨g1, 0, none⟩ = some (.int .i64 0) := by
    have := hr1.cell (i := 0) (by omega); rwa [cLt_zero] at this
  have hcS : w3.cell? ⟨g1, S, none⟩ = some (.int .i64 (cLt K S n : Int)) := hr1.cell (i := S) (by omega)
  have ht0 : ((S : Int) + 1 != (S : Int) + 1) = false := by simp
  have hS0 : (0 : Int) < (S : Int) + 1 := by omega
  have hS1 : (S : Int) < (S : Int) + 1 := by omega
  have HN : Hid (ao'.isNone = (none : Option Addr).isNone) := hnn
  clear hp hI hb1 hb2 hb3 hp1 hp2 hI2 hm0 hnn
  go_wp2
  go_loopw [13] (fun i wr => ∃ (s m : Nat), s ≤ S ∧ i = .int .i64 s ∧ wr = w3.drewN m) (fun i _ => S - (intOf i).toNat)
  case atStart => exact ⟨0, 0, Nat.zero_le _, rfl, rfl⟩
  case round =>
    obtain ⟨s, m, hs, rfl, rfl⟩ := hrel
    by_cases hlt : s < S
    · obtain ⟨c, hcn, hcs⟩ : ∃ c : Nat, c ≤ n ∧ w3.cell? ⟨g1, s, none⟩ = some (.int .i64 (c : Int)) ∧ ∃ d : Nat, c ≤ d ∧ w3.cell? ⟨g1, s + 1, none⟩ = some (.int .i64 (d : Int)) :=
        ⟨_, cLt_le K s n, hr1.cell (by omega), _, cLt_mono K n (Nat.le_succ _), hr1.cell (by omega)⟩
      obtain ⟨hcs, d, hcd, hds⟩ := hcs
      have hi1 : (s : Int) < (S : Int) + 1 := by omega
      have hi2 : (s : Int) + 1 < (S : Int) + 1 := by omega
      have hgt : decide ((d : Int) < (c : Int)) = false := by simp; omega
      have hw : IntKind.i64.wrap ((s : Int) + 1) = (s : Int) + 1 := IntWalk.i64_in _ ⟨by omega, by omega⟩
      go_wp2
      go_quiet (fail)
      go_wp2
      go_roundw
      case rel => exact ⟨s + 1, _, by omega, by go_num, by first | rfl | exact World.drewN_drewN _ _ _⟩
      case measure => simp [intOf]; omega
    · clear hc0 ht0 hS0
      go_wp2
      go_loopw [14, 15] (fun r i wr => ∃ k : Nat, k ≤ n ∧ i = .int .i64 k ∧ r = .int .i64 (cLt K S k : Int) ∧ wr = w3.drewN m) (fun _ i _ => n - (intOf i).toNat)
      case atStart => exact ⟨0, Nat.zero_le _, rfl, rfl, rfl⟩
      case round =>
        obtain ⟨k, hk, rfl, rfl, rfl⟩ := hrel
        by_cases hkn : k < n
        · obtain ⟨b, off, e, hc1, hc2⟩ := hp3 k hkn
          subst e
          have hx' : ao'.isNone = false → 0 ≤ f k ∧ f k < (0 : Int) := by rw [HN.out]; exact hx.out k hkn
          have HV : Hid (atOf ao'.isNone z (f k) = K k + lo) := by rw [HN.out]; exact hv.out k hkn
          have hvb' := hvb.out k hkn
          have hck := cLt_le K S k
          by_cases hr : 0 ≤ K k ∧ K k < (S : Int)
          · obtain ⟨hr0, hr1'⟩ := hr
            have HC : Hid (cLt K S (k + 1) = cLt K S k + 1) := cLt_hit K S k ⟨hr0, hr1'⟩
            go_wp2_with fail
            refine (stateOf_any ao' 0 0 z _ hx' (by omega) _ (hI3.below (below_drewN (Below.refl _ _) _))).mono ?_
            rintro e w' ⟨rfl, rfl⟩
            rw [HV.out]
            go_wp2
            go_roundw
            case rel => exact ⟨k + 1, by omega, by go_num, by rw [HC.out]; go_num, by trivial⟩
            case measure => simp [intOf]; omega
          · have HC : Hid (cLt K S (k + 1) = cLt K S k) := cLt_miss K S k hr
            by_cases hr0 : 0 ≤ K k
            · have hr2 : (S : Int) ≤ K k := by omega
              go_wp2_with fail
              refine (stateOf_any ao' 0 0 z _ hx' (by omega) _ (hI3.below (below_drewN (Below.refl _ _) _))).mono ?_
              rintro e w' ⟨rfl, rfl⟩
              rw [HV.out]
              go_wp2
              go_roundw
              case rel => exact ⟨k + 1, by omega, by go_num, by rw [HC.out], by trivial⟩
              case measure => simp [intOf]; omega
            · have hr2 : K k < 0 := by omega
              go_wp2_with fail
              refine (stateOf_any ao' 0 0 z _ hx' (by omega) _ (hI3.below (below_drewN (Below.refl _ _) _))).mono ?_
              rintro e w' ⟨rfl, rfl⟩
              rw [HV.out]
              go_wp2
              go_roundw
              case rel => exact ⟨k + 1, by omega, by go_num, by rw [HC.out], by trivial⟩
              case measure => simp [intOf]; omega
        · have hke : k = n := by omega
          subst hke
          go_wp2
          go_loopw [17] (fun i wr => ∃ s : Nat, s ≤ S ∧ i = .int .i64 s ∧ wr = w3.drewN m) (fun i _ => S - (intOf i).toNat)
          case atStart => exact ⟨0, Nat.zero_le _, rfl, rfl⟩
          case round =>
            clear hs hlt
            obtain ⟨s, hs, rfl, rfl⟩ := hrel
            by_cases hlt : s < S
            · obtain ⟨c, HC, hcs⟩ : ∃ c : Nat, Hid (cLt K s k = c) ∧ w3.cell? ⟨g1, s, none⟩ = some (.int .i64 (c : Int)) := ⟨_, rfl, hr1.cell (by omega)⟩
              obtain ⟨d, HD, hds⟩ : ∃ d : Nat, Hid (cLt K (s + 1) k = d) ∧ w3.cell? ⟨g1, s + 1, none⟩ = some (.int .i64 (d : Int)) := ⟨_, rfl, hr1.cell (by omega)⟩
              have hdM : d ≤ cLt K S k := by rw [← HD.out]; exact cLt_mono K k (by omega)
              have hcd : c ≤ d := by rw [← HD.out, ← HC.out]; exact cLt_mono K k (by omega)
              have hi1 : (s : Int) < (S : Int) + 1 := by omega
              have hi2 : (s : Int) + 1 < (S : Int) + 1 := by omega
              go_wp2
              go_loopw [18, 19] (fun p i wr => ∃ i' q : Nat, c ≤ i' ∧ i' ≤ d ∧ q ≤ k ∧ Hid (cEq K s q = i' - c) ∧ i = .int .i64 i' ∧ p = .int .i64 ((q : Int) - 1) ∧ wr = w3.drewN m) (fun _ i _ => d - (intOf i).toNat)
              case atStart => exact ⟨c, 0, Nat.le_refl _, hcd, Nat.zero_le _, (show cEq K s 0 = c - c by rw [Nat.sub_self]; rfl), rfl, rfl, rfl⟩
              case round =>
                obtain ⟨i', q, h1, h2, h3, HQ, rfl, rfl, rfl⟩ := hrel
                by_cases hid : i' < d
                · obtain ⟨j, hj, HJ, HP, HE⟩ : ∃ j, j < k ∧ Hid (K j = (s : Int)) ∧ Hid (o i' = j) ∧ Hid (cEq K s j = i' - c) := by
                    obtain ⟨j, a1, a2, a3, a4⟩ := pos_onto K s k i' (by rw [HC.out]; exact h1) (by rw [HD.out]; exact hid)
                    exact ⟨j, a1, a2, by rw [← a3]; exact hd j (Nat.zero_le _) a1 ⟨by omega, by omega⟩, by rw [← HC.out]; exact a4⟩
                  have hqj : q ≤ j := cEq_lt_of K s HJ.out (by rw [HQ.out, HE.out]; exact Nat.le_refl _)
                  have hco : w3.cell? ⟨g2, i', none⟩ = some (.int .i64 (j : Int)) := by rw [← HP.out]; exact hr2.cell (by omega)
                  obtain ⟨b, off, e, hc1, hc2⟩ := hp3 j hj
                  subst e
                  have hx' : ao'.isNone = false → 0 ≤ f j ∧ f j < (0 : Int) := by rw [HN.out]; exact hx.out j hj
                  have HV : Hid (atOf ao'.isNone z (f j) = K j + lo) := by rw [HN.out]; exact hv.out j hj
                  have hii : (i' : Int) < (cLt K S k : Int) := by omega
                  have hgq : ¬ (j : Int) ≤ (q : Int) - 1 := by omega
                  have hsl : ((s : Int) + lo != lo + (s : Int)) = false := by simp; omega
                  go_wp2_with fail
                  refine (stateOf_any ao' 0 0 z _ hx' (by omega) _ (hI3.below (below_drewN (Below.refl _ _) _))).mono ?_
                  rintro e w' ⟨rfl, rfl⟩
                  rw [HV.out, HJ.out]
                  go_wp2
                  go_roundw
                  case rel => exact ⟨i' + 1, j + 1, by omega, by omega, by omega, (show cEq K s (j + 1) = i' + 1 - c by rw [cEq_hit K s j HJ.out, HE.out]; omega), by go_num, by go_num, by trivial⟩
                  case measure => simp [intOf]; omega
                · go_wp2
                  go_roundw
                  case rel => exact ⟨s + 1, by omega, by go_num, by trivial⟩
                  case measure => simp [intOf]; omega
            · go_wp2
              go_ret
              exact ⟨rfl, below_drewN HB.out _⟩
set_option maxRecDepth 100000 in
set_option maxHeartbeats 4000000 in
theorem law6_some (mo : Option Addr) (a : Addr) (n mc na ac : Nat) (hna : na ≤ 131072) (hsum : 16 * n + 8 * na ≤ 1048576) (S : Nat) (f g z : Nat → Int) (lo hi : Int) (w : World)
    (hn : n ≤ 65536) (hlo : 0 ≤ lo) (hhi : hi - lo = S) (hS : S ≤ 65536) (hmx : hi ≤ 9223372036854775807)
    (hm0 : mo = none → n = 0) (hp : PairsAt w mo n f g) (hI : IntsAt w (some a) na z) (K : Nat → Int) (hx : Hid (∀ j, j < n → (some a).isNone = false → 0 ≤ f j ∧ f j < (na : Int)))
    (hv : Hid (∀ j, j < n → atOf (some a).isNone z (f j) = K j + lo)) (hvb : Hid (∀ j, j < n → -9223372036854775808 ≤ K j + lo ∧ K j + lo ≤ 9223372036854775807)) :
    Calls Try.prog 6 #[.slice mo n mc, .slice (some a) na ac, .int .i64 lo, .int .i64 hi] w fun e w' => e = .returned (.bool true) ∧ Below w.heap.size w w' := by
  have hq := neqnil26
  have hh : lo ≤ hi := by omega
  have d1 : decide ((65536 : Int) < (n : Int)) = false := by simp; omega
  have d1' : decide ((131072 : Int) < (na : Int)) = false := by simp; omega
  have d2 : decide ((1048576 : Int) < 16 * (n : Int) + 8 * (na : Int)) = false := by simp; omega
  have d3 : decide (lo < 0) = false := by simp; omega
  have d4 : decide (hi < lo) = false := by simp; omega
  have d5 : decide ((65536 : Int) < (S : Int)) = false := by simp; omega
  go_enter Try.func6, Try.ntmps6
  go_wp2_with (go_at_call 14; go_in)
  go_loop [9] (fun i => ∃ k : Nat, k ≤ n ∧ i = .int .i64 k) (fun i => n - (intOf i).toNat)
  case atStart => exact ⟨0, Nat.zero_le _, rfl⟩
  case round =>
    obtain ⟨k, hk, rfl⟩ := hrel
    by_cases hlt : k < n
    · obtain ⟨b, off, e, hc1, hc2⟩ := hp k hlt
      subst e
      obtain ⟨hx0, hx1⟩ := hx.out k hlt rfl
      clear hm0
      go_wp2
      go_round
      case rel => exact ⟨k + 1, by omega, by go_num⟩
      case measure => simp [intOf]; omega
    · go_wp2_with fail
      clear hlt hk
      refine (cloneMoves_any mo n mc f g (by omega) _ hm0 hp).mono ?_
      rintro e w1 ⟨mo', rfl, -, hp1, hb1⟩
      go_wp2_with fail
      refine (cloneInts_any (some a) na ac z (by omega) _ (fun h => by cases h) (hI.below hb1)).mono ?_
      rintro e w2 ⟨ao', rfl, hnn, hI2, hb2⟩
      have hp2 := hp1.below hb2
      go_wp2_with fail
      refine (zzDeal_any mo' ao' n n na na S f g z K lo hi _ hn (by omega) hlo hhi hS hmx hp2 hI2 (by rw [hnn]; exact hx.out) (by rw [hnn]; exact hv.out) hvb.out).mono ?_
      rintro e w3 ⟨g1, g2, o, rfl, hr1, hr2, hd, hb3⟩
      have HB : Hid (Below w.heap.size w w3) := (hb1.trans (hb2.mono hb1.size)).trans (hb3.mono (Nat.le_trans hb1.size hb2.size))
      have hp3 := hp2.below hb3
      have hI3 := hI2.below hb3
      have hM := cLt_le K S n
      have hc0 : w3.cell? ⟨g1, 0, none⟩ = some (.int .i64 0) := by
        have := hr1.cell (i := 0) (by omega); rwa [cLt_zero] at this
      have hcS : w3.cell? ⟨g1, S, none⟩ = some (.int .i64 (cLt K S n : Int)) := hr1.cell (i := S) (by omega)
      have ht0 : ((S : Int) + 1 != (S : Int) + 1) = false := by simp
      have hS0 : (0 : Int) < (S : Int) + 1 := by omega
      have hS1 : (S : Int) < (S : Int) + 1 := by omega
      have HN : Hid (ao'.isNone = (some a).isNone) := hnn
      clear hp hI hb1 hb2 hb3 hp1 hp2 hI2 hm0 hnn
      go_wp2
      go_loopw [13] (fun i wr => ∃ (s m : Nat), s ≤ S ∧ i = .int .i64 s ∧ wr = w3.drewN m) (fun i _ => S - (intOf i).toNat)
      case atStart => exact ⟨0, 0, Nat.zero_le _, rfl, rfl⟩
      case round =>
        obtain ⟨s, m, hs, rfl, rfl⟩ := hrel
        by_cases hlt : s < S
        · obtain ⟨c, hcn, hcs⟩ : ∃ c : Nat, c ≤ n ∧ w3.cell? ⟨g1, s, none⟩ = some (.int .i64 (c : Int)) ∧ ∃ d : Nat, c ≤ d ∧ w3.cell? ⟨g1, s + 1, none⟩ = some (.int .i64 (d : Int)) :=
            ⟨_, cLt_le K s n, hr1.cell (by omega), _, cLt_mono K n (Nat.le_succ _), hr1.cell (by omega)⟩
          obtain ⟨hcs, d, hcd, hds⟩ := hcs
          have hi1 : (s : Int) < (S : Int) + 1 := by omega
          have hi2 : (s : Int) + 1 < (S : Int) + 1 := by omega
          have hgt : decide ((d : Int) < (c : Int)) = false := by simp; omega
          have hw : IntKind.i64.wrap ((s : Int) + 1) = (s : Int) + 1 := IntWalk.i64_in _ ⟨by omega, by omega⟩
          go_wp2
          go_quiet (fail)
          go_wp2
          go_roundw
          case rel => exact ⟨s + 1, _, by omega, by go_num, by first | rfl | exact World.drewN_drewN _ _ _⟩
          case measure => simp [intOf]; omega
        · clear hc0 ht0 hS0
          go_wp2
          go_loopw [14, 15] (fun r i wr => ∃ k : Nat, k ≤ n ∧ i = .int .i64 k ∧ r = .int .i64 (cLt K S k : Int) ∧ wr = w3.drewN m) (fun _ i _ => n - (intOf i).toNat)
          case atStart => exact ⟨0, Nat.zero_le _, rfl, rfl, rfl⟩
          case round =>
            obtain ⟨k, hk, rfl, rfl, rfl⟩ := hrel
            by_cases hkn : k < n
            · obtain ⟨b, off, e, hc1, hc2⟩ := hp3 k hkn
              subst e
              have hx' : ao'.isNone = false → 0 ≤ f k ∧ f k < (na : Int) := by rw [HN.out]; exact hx.out k hkn
              have HV : Hid (atOf ao'.isNone z (f k) = K k + lo) := by rw [HN.out]; exact hv.out k hkn
              have hvb' := hvb.out k hkn
              have hck := cLt_le K S k
              by_cases hr : 0 ≤ K k ∧ K k < (S : Int)
              · obtain ⟨hr0, hr1'⟩ := hr
                have HC : Hid (cLt K S (k + 1) = cLt K S k + 1) := cLt_hit K S k ⟨hr0, hr1'⟩
                go_wp2_with fail
                refine (stateOf_any ao' na na z _ hx' (by omega) _ (hI3.below (below_drewN (Below.refl _ _) _))).mono ?_
                rintro e w' ⟨rfl, rfl⟩
                rw [HV.out]
                go_wp2
                go_roundw
                case rel => exact ⟨k + 1, by omega, by go_num, by rw [HC.out]; go_num, by trivial⟩
                case measure => simp [intOf]; omega
              · have HC : Hid (cLt K S (k + 1) = cLt K S k) := cLt_miss K S k hr
                by_cases hr0 : 0 ≤ K k
                · have hr2 : (S : Int) ≤ K k := by omega
                  go_wp2_with fail
                  refine (stateOf_any ao' na na z _ hx' (by omega) _ (hI3.below (below_drewN (Below.refl _ _) _))).mono ?_
                  rintro e w' ⟨rfl, rfl⟩
                  rw [HV.out]
                  go_wp2
                  go_roundw
                  case rel => exact ⟨k + 1, by omega, by go_num, by rw [HC.out], by trivial⟩
                  case measure => simp [intOf]; omega
                · have hr2 : K k < 0 := by omega
                  go_wp2_with fail
                  refine (stateOf_any ao' na na z _ hx' (by omega) _ (hI3.below (below_drewN (Below.refl _ _) _))).mono ?_
                  rintro e w' ⟨rfl, rfl⟩
                  rw [HV.out]
                  go_wp2
                  go_roundw
                  case rel => exact ⟨k + 1, by omega, by go_num, by rw [HC.out], by trivial⟩
                  case measure => simp [intOf]; omega
            · have hke : k = n := by omega
              subst hke
              go_wp2
              go_loopw [17] (fun i wr => ∃ s : Nat, s ≤ S ∧ i = .int .i64 s ∧ wr = w3.drewN m) (fun i _ => S - (intOf i).toNat)
              case atStart => exact ⟨0, Nat.zero_le _, rfl, rfl⟩
              case round =>
                clear hs hlt
                obtain ⟨s, hs, rfl, rfl⟩ := hrel
                by_cases hlt : s < S
                · obtain ⟨c, HC, hcs⟩ : ∃ c : Nat, Hid (cLt K s k = c) ∧ w3.cell? ⟨g1, s, none⟩ = some (.int .i64 (c : Int)) := ⟨_, rfl, hr1.cell (by omega)⟩
                  obtain ⟨d, HD, hds⟩ : ∃ d : Nat, Hid (cLt K (s + 1) k = d) ∧ w3.cell? ⟨g1, s + 1, none⟩ = some (.int .i64 (d : Int)) := ⟨_, rfl, hr1.cell (by omega)⟩
                  have hdM : d ≤ cLt K S k := by rw [← HD.out]; exact cLt_mono K k (by omega)
                  have hcd : c ≤ d := by rw [← HD.out, ← HC.out]; exact cLt_mono K k (by omega)
                  have hi1 : (s : Int) < (S : Int) + 1 := by omega
                  have hi2 : (s : Int) + 1 < (S : Int) + 1 := by omega
                  go_wp2
                  go_loopw [18, 19] (fun p i wr => ∃ i' q : Nat, c ≤ i' ∧ i' ≤ d ∧ q ≤ k ∧ Hid (cEq K s q = i' - c) ∧ i = .int .i64 i' ∧ p = .int .i64 ((q : Int) - 1) ∧ wr = w3.drewN m) (fun _ i _ => d - (intOf i).toNat)
                  case atStart => exact ⟨c, 0, Nat.le_refl _, hcd, Nat.zero_le _, (show cEq K s 0 = c - c by rw [Nat.sub_self]; rfl), rfl, rfl, rfl⟩
                  case round =>
                    obtain ⟨i', q, h1, h2, h3, HQ, rfl, rfl, rfl⟩ := hrel
                    by_cases hid : i' < d
                    · obtain ⟨j, hj, HJ, HP, HE⟩ : ∃ j, j < k ∧ Hid (K j = (s : Int)) ∧ Hid (o i' = j) ∧ Hid (cEq K s j = i' - c) := by
                        obtain ⟨j, a1, a2, a3, a4⟩ := pos_onto K s k i' (by rw [HC.out]; exact h1) (by rw [HD.out]; exact hid)
                        exact ⟨j, a1, a2, by rw [← a3]; exact hd j (Nat.zero_le _) a1 ⟨by omega, by omega⟩, by rw [← HC.out]; exact a4⟩
                      have hqj : q ≤ j := cEq_lt_of K s HJ.out (by rw [HQ.out, HE.out]; exact Nat.le_refl _)
                      have hco : w3.cell? ⟨g2, i', none⟩ = some (.int .i64 (j : Int)) := by rw [← HP.out]; exact hr2.cell (by omega)
                      obtain ⟨b, off, e, hc1, hc2⟩ := hp3 j hj
                      subst e
                      have hx' : ao'.isNone = false → 0 ≤ f j ∧ f j < (na : Int) := by rw [HN.out]; exact hx.out j hj
                      have HV : Hid (atOf ao'.isNone z (f j) = K j + lo) := by rw [HN.out]; exact hv.out j hj
                      have hii : (i' : Int) < (cLt K S k : Int) := by omega
                      have hgq : ¬ (j : Int) ≤ (q : Int) - 1 := by omega
                      have hsl : ((s : Int) + lo != lo + (s : Int)) = false := by simp; omega
                      go_wp2_with fail
                      refine (stateOf_any ao' na na z _ hx' (by omega) _ (hI3.below (below_drewN (Below.refl _ _) _))).mono ?_
                      rintro e w' ⟨rfl, rfl⟩
                      rw [HV.out, HJ.out]
                      go_wp2
                      go_roundw
                      case rel => exact ⟨i' + 1, j + 1, by omega, by omega, by omega, (show cEq K s (j + 1) = i' + 1 - c by rw [cEq_hit K s j HJ.out, HE.out]; omega), by go_num, by go_num, by trivial⟩
                      case measure => simp [intOf]; omega
                    · go_wp2
                      go_roundw
                      case rel => exact ⟨s + 1, by omega, by go_num, by trivial⟩
                      case measure => simp [intOf]; omega
                · go_wp2
                  go_ret
                  exact ⟨rfl, below_drewN HB.out _⟩

set_option maxRecDepth 100000 in
set_option maxHeartbeats 4000000 in
theorem law6_bad (mo : Option Addr) (a : Addr) (n mc na ac : Nat) (hna : na ≤ 131072) (hsum : 16 * n + 8 * na ≤ 1048576) (S : Nat) (f g : Nat → Int) (lo hi : Int) (w : World)
    (hn : n ≤ 65536) (hlo : 0 ≤ lo) (hhi : hi - lo = S) (hS : S ≤ 65536) (hmx : hi ≤ 9223372036854775807)
    (hp : PairsAt w mo n f g) (hx : Hid (¬ ∀ j, j < n → 0 ≤ f j ∧ f j < (na : Int))) :
    Calls Try.prog 6 #[.slice mo n mc, .slice (some a) na ac, .int .i64 lo, .int .i64 hi] w fun e w' => e = .returned (.bool true) ∧ Below w.heap.size w w' := by
  have hq := neqnil26
  have hh : lo ≤ hi := by omega
  have d1 : decide ((65536 : Int) < (n : Int)) = false := by simp; omega
  have d1' : decide ((131072 : Int) < (na : Int)) = false := by simp; omega
  have d2 : decide ((1048576 : Int) < 16 * (n : Int) + 8 * (na : Int)) = false := by simp; omega
  have d3 : decide (lo < 0) = false := by simp; omega
  have d4 : decide (hi < lo) = false := by simp; omega
  have d5 : decide ((65536 : Int) < (S : Int)) = false := by simp; omega
  go_enter Try.func6, Try.ntmps6
  go_wp2_with (go_at_call 14; go_in)
  go_loop [9] (fun i => ∃ k : Nat, k ≤ n ∧ i = .int .i64 k ∧ Hid (∀ j, j < k → 0 ≤ f j ∧ f j < (na : Int))) (fun i => n - (intOf i).toNat)
  case atStart => exact ⟨0, Nat.zero_le _, rfl, fun j hj => by omega⟩
  case round =>
    obtain ⟨k, hk, rfl, HK⟩ := hrel
    have hlt : k < n := by
      by_cases e : k < n
      · exact e
      · exact absurd (fun j hj => HK.out j (by omega)) hx.out
    obtain ⟨b, off, e, hc1, hc2⟩ := hp k hlt
    subst e
    by_cases hr0 : 0 ≤ f k
    · by_cases hr1 : f k < (na : Int)
      · go_wp2
        go_round
        case rel => exact ⟨k + 1, by omega, by go_num, (fun j hj => by
          by_cases e : j = k
          · subst e; exact ⟨hr0, hr1⟩
          · exact HK.out j (by omega))⟩
        case measure => simp [intOf]; omega
      · go_wp2
        go_ret
        exact ⟨rfl, Below.refl _ _⟩
    · go_wp2
      go_ret
      exact ⟨rfl, Below.refl _ _⟩

/-- The walk, whole. -/
theorem law6_walk (mo ao : Option Addr) (n mc na ac : Nat) (lo hi : Int) (f g z : Nat → Int) (w : World) (hm0 : mo = none → n = 0 ∧ mc = 0) (ha0 : ao = none → na = 0 ∧ ac = 0) (hnm : n ≤ maxLen) (hnam : na ≤ maxLen)
    (hp : PairsAt w mo n f g) (hI : IntsAt w ao na z) (hf : ∀ i, i < n → -9223372036854775808 ≤ f i ∧ f i ≤ 9223372036854775807) (hz : ∀ i, i < na → -9223372036854775808 ≤ z i ∧ z i ≤ 9223372036854775807)
    (hlo : -9223372036854775808 ≤ lo ∧ lo ≤ 9223372036854775807) (hhi : -9223372036854775808 ≤ hi ∧ hi ≤ 9223372036854775807) :
    Calls Try.prog 6 #[.slice mo n mc, .slice ao na ac, .int .i64 lo, .int .i64 hi] w fun e w' => e = .returned (.bool true) ∧ Below w.heap.size w w' := by
  by_cases hok : n ≤ 65536 ∧ na ≤ 131072 ∧ 16 * n + 8 * na ≤ 1048576 ∧ 0 ≤ lo ∧ lo ≤ hi ∧ hi - lo ≤ 65536
  · obtain ⟨h1, h2, h3, h4, h5, h6⟩ := hok
    have hS : hi - lo = ((hi - lo).toNat : Int) := by omega
    cases ao with
    | none =>
      obtain ⟨rfl, rfl⟩ := ha0 rfl
      refine law6_nil mo n mc (hi - lo).toNat f g z lo hi w h1 h4 hS (by omega) hhi.2 (fun h => (hm0 h).1) hp hI (fun j => f j - lo) ?_ ?_ ?_
      · intro j _ h; cases h
      · intro j hj; simp only [atOf, Option.isNone]; simp
      · intro j hj
        have := hf j hj
        show -9223372036854775808 ≤ f j - lo + lo ∧ f j - lo + lo ≤ 9223372036854775807
        omega
    | some a =>
      by_cases hin : ∀ j, j < n → 0 ≤ f j ∧ f j < (na : Int)
      · refine law6_some mo a n mc na ac h2 h3 (hi - lo).toNat f g z lo hi w h1 h4 hS (by omega) hhi.2 (fun h => (hm0 h).1) hp hI (fun j => z (f j).toNat - lo) ?_ ?_ ?_
        · intro j hj _; exact hin j hj
        · intro j hj; simp only [atOf, Option.isNone]; simp
        · intro j hj
          have h1 := hin j hj
          have := hz (f j).toNat (by omega)
          show -9223372036854775808 ≤ z (f j).toNat - lo + lo ∧ z (f j).toNat - lo + lo ≤ 9223372036854775807
          omega
      · exact law6_bad mo a n mc na ac h2 h3 (hi - lo).toNat f g lo hi w h1 h4 hS (by omega) hhi.2 hp hin
  · exact law6_out mo ao n mc na ac lo hi w hnm hnam hlo hhi hok
end Go.Proofs.Qxb6003473a
