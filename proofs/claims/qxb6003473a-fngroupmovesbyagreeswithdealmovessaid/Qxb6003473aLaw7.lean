/-
  The walk of 'FnGroupMovesByAgreesWithDealMoves' (function 7).
-/
import Derived.Test.Qxb6003473aGroup
namespace Go.Proofs.Qxb6003473a
open Go.RowKit Go.PlainAid
set_option linter.unusedVariables false

theorem neqnil26' (a : Option Addr) (n c : Nat) (w : World) : Sem.run Try.prog (binOp BinOp.neq 26 (.slice a n c) (.slice none 0 0)) w = .ok (.bool (!a.isNone)) w :=
  run_neq_slice_nil_any w 26 3 a n c 0 0 Try.underlying26

set_option maxRecDepth 100000 in
theorem bytes19 (mo ao : Option Addr) (n mc na ac : Nat) (ns : Int) (w : World) (h : n + na ≤ 1048576) :
    Calls Try.prog 19 #[.slice mo n mc, .slice ao na ac, .int .i64 ns] w fun e w' => e = .returned (.bool true) ∧ w = w' := by
  go_enter Try.func19, Try.ntmps19
  go_wp2
  go_ret
  exact ⟨rfl, rfl⟩

set_option maxRecDepth 100000 in
theorem law7_out (mo ao : Option Addr) (n mc na ac : Nat) (ns : Int) (w : World) (hn : n ≤ maxLen) (hna : na ≤ maxLen)
    (hns : -9223372036854775808 ≤ ns ∧ ns ≤ 9223372036854775807)
    (hout : ¬ (n ≤ 65536 ∧ na ≤ 131072 ∧ 16 * n + 8 * na ≤ 1048576 ∧ 0 ≤ ns ∧ ns ≤ 65536)) :
    Calls Try.prog 7 #[.slice mo n mc, .slice ao na ac, .int .i64 ns] w fun e w' => e = .returned (.bool true) ∧ Below w.heap.size w w' := by
  unfold maxLen at hn hna
  go_enter Try.func7, Try.ntmps7
  go_wp2
  all_goals (go_ret; exact ⟨rfl, Below.refl _ _⟩)

set_option maxRecDepth 100000 in
set_option maxHeartbeats 4000000 in
theorem law7_bad_nil (mo : Option Addr)  (n mc S : Nat) (f g z : Nat → Int) (w : World) 
    (hn : n ≤ 65536) (hS : S ≤ 65536) (hp : PairsAt w mo n f g) (hI : IntsAt w (none : Option Addr) 0 z)
    (hx : Hid (¬ ∀ j, j < n → ((none : Option Addr).isNone = false → 0 ≤ f j ∧ f j < (0 : Int)) ∧ 0 ≤ atOf (none : Option Addr).isNone z (f j) ∧ atOf (none : Option Addr).isNone z (f j) < (S : Int))) :
    Calls Try.prog 7 #[.slice mo n mc, .slice (none : Option Addr) 0 0, .int .i64 (S : Int)] w fun e w' => e = .returned (.bool true) ∧ Below w.heap.size w w' := by
  have hq := neqnil26'
  have d1 : decide ((65536 : Int) < (n : Int)) = false := decide_eq_false (by omega)
  have d2 : decide ((1048576 : Int) < 16 * (n : Int)) = false := decide_eq_false (by omega)
  have d5 : decide ((65536 : Int) < (S : Int)) = false := decide_eq_false (by omega)
  have d6 : decide ((S : Int) < 0) = false := decide_eq_false (by omega)
  go_enter Try.func7, Try.ntmps7
  go_wp2_with (go_at_call 19; refine (bytes19 _ _ _ _ _ _ _ _ (by omega)).mono ?_; rintro e w' ⟨rfl, rfl⟩)
  go_loopw [7] (fun i wr => ∃ k : Nat, k ≤ n ∧ i = .int .i64 k ∧ wr = w ∧ Hid (∀ j, j < k → ((none : Option Addr).isNone = false → 0 ≤ f j ∧ f j < (0 : Int)) ∧ 0 ≤ atOf (none : Option Addr).isNone z (f j) ∧ atOf (none : Option Addr).isNone z (f j) < (S : Int))) (fun i _ => n - (intOf i).toNat)
  case atStart => exact ⟨0, Nat.zero_le _, rfl, rfl, fun j hj => by omega⟩
  case round =>
    obtain ⟨k, hk, rfl, rfl, HK⟩ := hrel
    have hlt : k < n := by
      by_cases e : k < n
      · exact e
      · exact absurd (fun j hj => HK.out j (by omega)) hx.out
    obtain ⟨b, off, e, hc1, hc2⟩ := hp k hlt
    subst e
    obtain ⟨y, HY⟩ : ∃ y, Hid (atOf (none : Option Addr).isNone z (f k) = y) := ⟨_, rfl⟩
    by_cases hy0 : 0 ≤ y
    · by_cases hy1 : y < (S : Int)
      · go_wp2_with fail
        refine (stateOf_any (none : Option Addr) 0 0 z _ (fun h => by cases h) (by omega) _ hI).mono ?_
        rintro e w' ⟨rfl, rfl⟩
        rw [HY.out]
        go_wp2
        go_roundw
        case rel => exact ⟨k + 1, by omega, by go_num, by trivial, (fun j hj => by
          by_cases e : j = k
          · subst e; rw [HY.out]; exact ⟨(fun h => by cases h), hy0, hy1⟩
          · exact HK.out j (by omega))⟩
        case measure => simp [intOf]; omega
      · go_wp2_with fail
        refine (stateOf_any (none : Option Addr) 0 0 z _ (fun h => by cases h) (by omega) _ hI).mono ?_
        rintro e w' ⟨rfl, rfl⟩
        rw [HY.out]
        go_wp2
        go_ret
        exact ⟨rfl, Below.refl _ _⟩
    · go_wp2_with fail
      refine (stateOf_any (none : Option Addr) 0 0 z _ (fun h => by cases h) (by omega) _ hI).mono ?_
      rintro e w' ⟨rfl, rfl⟩
      rw [HY.out]
      go_wp2
      go_ret
      exact ⟨rfl, Below.refl _ _⟩
set_option maxRecDepth 100000 in
set_option maxHeartbeats 4000000 in
theorem law7_bad_some (mo : Option Addr) (a : Addr) (na ac : Nat) (n mc S : Nat) (f g z : Nat → Int) (w : World) (hna : na ≤ 131072) (hsum : 16 * n + 8 * na ≤ 1048576)
    (hn : n ≤ 65536) (hS : S ≤ 65536) (hp : PairsAt w mo n f g) (hI : IntsAt w (some a) na z)
    (hx : Hid (¬ ∀ j, j < n → ((some a).isNone = false → 0 ≤ f j ∧ f j < (na : Int)) ∧ 0 ≤ atOf (some a).isNone z (f j) ∧ atOf (some a).isNone z (f j) < (S : Int))) :
    Calls Try.prog 7 #[.slice mo n mc, .slice (some a) na ac, .int .i64 (S : Int)] w fun e w' => e = .returned (.bool true) ∧ Below w.heap.size w w' := by
  have hq := neqnil26'
  have d1 : decide ((65536 : Int) < (n : Int)) = false := decide_eq_false (by omega)
  have d1' : decide ((131072 : Int) < (na : Int)) = false := decide_eq_false (by omega)
  have d2 : decide ((1048576 : Int) < 16 * (n : Int) + 8 * (na : Int)) = false := decide_eq_false (by omega)
  have d5 : decide ((65536 : Int) < (S : Int)) = false := decide_eq_false (by omega)
  have d6 : decide ((S : Int) < 0) = false := decide_eq_false (by omega)
  go_enter Try.func7, Try.ntmps7
  go_wp2_with (go_at_call 19; refine (bytes19 _ _ _ _ _ _ _ _ (by omega)).mono ?_; rintro e w' ⟨rfl, rfl⟩)
  go_loopw [7] (fun i wr => ∃ k : Nat, k ≤ n ∧ i = .int .i64 k ∧ wr = w ∧ Hid (∀ j, j < k → ((some a).isNone = false → 0 ≤ f j ∧ f j < (na : Int)) ∧ 0 ≤ atOf (some a).isNone z (f j) ∧ atOf (some a).isNone z (f j) < (S : Int))) (fun i _ => n - (intOf i).toNat)
  case atStart => exact ⟨0, Nat.zero_le _, rfl, rfl, fun j hj => by omega⟩
  case round =>
    obtain ⟨k, hk, rfl, rfl, HK⟩ := hrel
    have hlt : k < n := by
      by_cases e : k < n
      · exact e
      · exact absurd (fun j hj => HK.out j (by omega)) hx.out
    obtain ⟨b, off, e, hc1, hc2⟩ := hp k hlt
    subst e
    by_cases hx0 : 0 ≤ f k
    · by_cases hx1 : f k < (na : Int)
      · have hx2 : (some a : Option Addr).isNone = false → 0 ≤ f k ∧ f k < (na : Int) := fun _ => ⟨hx0, hx1⟩
        obtain ⟨y, HY⟩ : ∃ y, Hid (atOf (some a).isNone z (f k) = y) := ⟨_, rfl⟩
        by_cases hy0 : 0 ≤ y
        · by_cases hy1 : y < (S : Int)
          · go_wp2_with fail
            refine (stateOf_any (some a) na ac z _ hx2 (by omega) _ hI).mono ?_
            rintro e w' ⟨rfl, rfl⟩
            rw [HY.out]
            go_wp2
            go_roundw
            case rel => exact ⟨k + 1, by omega, by go_num, by trivial, (fun j hj => by
              by_cases e : j = k
              · subst e; rw [HY.out]; exact ⟨hx2, hy0, hy1⟩
              · exact HK.out j (by omega))⟩
            case measure => simp [intOf]; omega
          · go_wp2_with fail
            refine (stateOf_any (some a) na ac z _ hx2 (by omega) _ hI).mono ?_
            rintro e w' ⟨rfl, rfl⟩
            rw [HY.out]
            go_wp2
            go_ret
            exact ⟨rfl, Below.refl _ _⟩
        · go_wp2_with fail
          refine (stateOf_any (some a) na ac z _ hx2 (by omega) _ hI).mono ?_
          rintro e w' ⟨rfl, rfl⟩
          rw [HY.out]
          go_wp2
          go_ret
          exact ⟨rfl, Below.refl _ _⟩
      · go_wp2
        go_ret
        exact ⟨rfl, Below.refl _ _⟩
    · go_wp2
      go_ret
      exact ⟨rfl, Below.refl _ _⟩
set_option maxRecDepth 100000 in
set_option maxHeartbeats 4000000 in
theorem law7_nil (mo : Option Addr)  (n mc S : Nat) (f g z : Nat → Int) (w : World) 
    (hn : n ≤ 65536) (hS : S ≤ 65536) (hm0 : Hid (mo = none → n = 0)) (hp : PairsAt w mo n f g) (hI : IntsAt w (none : Option Addr) 0 z) (K : Nat → Int) (hx : Hid (∀ j, j < n → (none : Option Addr).isNone = false → 0 ≤ f j ∧ f j < (0 : Int)))
    (hv : Hid (∀ j, j < n → atOf (none : Option Addr).isNone z (f j) = K j)) (hK : Hid (∀ j, j < n → InR K S j)) :
    Calls Try.prog 7 #[.slice mo n mc, .slice (none : Option Addr) 0 0, .int .i64 (S : Int)] w fun e w' => e = .returned (.bool true) ∧ Below w.heap.size w w' := by
  have hq := neqnil26'
  have d1 : decide ((65536 : Int) < (n : Int)) = false := decide_eq_false (by omega)
  have d2 : decide ((1048576 : Int) < 16 * (n : Int)) = false := decide_eq_false (by omega)
  have d5 : decide ((65536 : Int) < (S : Int)) = false := decide_eq_false (by omega)
  have d6 : decide ((S : Int) < 0) = false := decide_eq_false (by omega)
  go_enter Try.func7, Try.ntmps7
  go_wp2_with (go_at_call 19; refine (bytes19 _ _ _ _ _ _ _ _ (by omega)).mono ?_; rintro e w' ⟨rfl, rfl⟩)
  go_loopw [7] (fun i wr => ∃ k : Nat, k ≤ n ∧ i = .int .i64 k ∧ w = wr) (fun i _ => n - (intOf i).toNat)
  case atStart => exact ⟨0, Nat.zero_le _, rfl, rfl⟩
  case round =>
    obtain ⟨k, hk, rfl, rfl⟩ := hrel
    by_cases hlt : k < n
    · obtain ⟨b, off, e, hc1, hc2⟩ := hp k hlt
      subst e
      have hx' := hx.out k hlt
      have HV := Hid.in (hv.out k hlt)
      obtain ⟨hy0, hy1⟩ := hK.out k hlt
      go_wp2_with fail
      refine (stateOf_any (none : Option Addr) 0 0 z _ hx' (by omega) _ hI).mono ?_
      rintro e w' ⟨rfl, rfl⟩
      rw [HV.out]
      go_wp2
      go_roundw
      case rel => exact ⟨k + 1, by omega, by go_num, by trivial⟩
      case measure => simp [intOf]; omega
    · go_wp2_with fail
      clear hlt hk
      refine (cloneMoves_any mo n mc f g (by omega) _ hm0.out hp).mono ?_
      rintro e w1 ⟨mo', rfl, -, hp1, hb1⟩
      go_wp2_with fail
      refine (cloneInts_any (none : Option Addr) 0 0 z (by omega) _ (fun _ => rfl) (hI.below hb1)).mono ?_
      rintro e w2 ⟨ao', rfl, hnn, hI2, hb2⟩
      have hp2 := hp1.below hb2
      have HN : Hid (ao'.isNone = (none : Option Addr).isNone) := hnn
      clear hnn
      go_wp2_with fail
      refine (zzGroup_any mo' ao' n n 0 0 S f g z K _ hn (by omega) hS hp2 hI2 (by rw [HN.out]; exact hx) (by rw [HN.out]; exact hv) hK).mono ?_
      rintro e w3 ⟨g1, oo, m, o, rfl, hr1, hm0', hm1, hI3, hd, hb3⟩
      have HO := Hid.in (And.intro hm0' (And.intro hm1 hd))
      clear hm0' hm1 hd
      go_wp2_with fail
      refine (zzDeal_any mo' ao' n n 0 0 S f g z K 0 S _ hn (by omega) (by omega) (by omega) hS (by omega) (hp2.below hb3) (hI2.below hb3) (by rw [HN.out]; exact hx.out) (fun j hj => by rw [HN.out, hv.out j hj]; omega) (fun j hj => by have := hK.out j hj; unfold InR at this; omega)).mono ?_
      rintro e w4 ⟨g1', g2', o', rfl, hr1', hr2', hd', hb4⟩
      have HB : Hid (Below w.heap.size w w4) := ((hb1.trans (hb2.mono hb1.size)).trans (hb3.mono (Nat.le_trans hb1.size hb2.size))).trans (hb4.mono (Nat.le_trans (Nat.le_trans hb1.size hb2.size) hb3.size))
      have hM := cLt_all K S n hK.out
      rw [hM] at hr2'
      rw [hM]
      have hr1 : Row w4 g1 (S + 1) (fun s => cLt K s n) := hr1.same (hb4.block g1 hr1.lt)
      have hI4 := hI3.below hb4
      have HD : Hid (∀ i, i < n → atOf oo.isNone o (i : Int) = o' i) := by
        intro i hi
        obtain ⟨j, h1, h2, h3⟩ := pos_onto_all K S n i (by rw [hM]; exact hi)
        have e1 := HO.out.2.2 j h1
        have e2 := hd' j (Nat.zero_le _) h1 h2
        rw [h3] at e1 e2
        rw [e1, e2]
      clear hp hI hb1 hb2 hb3 hb4 hp1 hp2 hI2 hI3 hm0 hM hd' hx hv
      rcases (show (oo.isNone = true) ∨ (oo.isNone = false ∧ m = n) from by
        cases h : oo.isNone
        · exact .inr ⟨rfl, HO.out.2.1 h⟩
        · exact .inl rfl) with hoo | ⟨hoo, rfl⟩
      · go_wp2
        go_loopw [13] (fun i wr => ∃ s q : Nat, s ≤ S + 1 ∧ i = .int .i64 s ∧ wr = w4.drewN q) (fun i _ => S + 1 - (intOf i).toNat)
        case atStart => exact ⟨0, 0, Nat.zero_le _, rfl, rfl⟩
        case round =>
          obtain ⟨s, q, hs, rfl, rfl⟩ := hrel
          by_cases hlt : s < S + 1
          · obtain ⟨c, hcs, hcs'⟩ : ∃ c : Nat, w4.cell? ⟨g1, s, none⟩ = some (.int .i64 (c : Int)) ∧ w4.cell? ⟨g1', s, none⟩ = some (.int .i64 (c : Int)) := ⟨_, hr1.cell hlt, hr1'.cell hlt⟩
            have hi1 : (s : Int) < (S : Int) + 1 := by omega
            have hne : ((c : Int) != (c : Int)) = false := by simp
            go_wp2
            go_quiet (fail)
            go_wp2
            go_roundw
            case rel => exact ⟨s + 1, _, by omega, by go_num, by first | rfl | exact World.drewN_drewN _ _ _⟩
            case measure => simp [intOf]; omega
          · go_wp2
            go_loopw [14] (fun i wr => ∃ i' q : Nat, i' ≤ n ∧ i = .int .i64 i' ∧ wr = w4.drewN q) (fun i _ => n - (intOf i).toNat)
            case atStart => exact ⟨0, q, Nat.zero_le _, rfl, rfl⟩
            case round =>
              clear hs hlt
              obtain ⟨i', q, hi, rfl, rfl⟩ := hrel
              by_cases hlt : i' < n
              · have hco := hr2'.cell hlt
                have hin : (i' : Int) < (n : Int) := by omega
                have hxo : oo.isNone = false → 0 ≤ (i' : Int) ∧ (i' : Int) < (m : Int) := (fun h => by rw [hoo] at h; cases h)
                have HC : Hid (∀ r, Calls Try.prog 21 #[.slice oo m m, .int .i64 (i' : Int)] (w4.drewN r) fun e w' => e = .returned (.int .i64 (o' i')) ∧ w' = w4.drewN r) := fun r => by
                  have := moveAt_any oo m m o (i' : Int) hxo (by have := HO.out.1 hoo; omega) (w4.drewN r) (hI4.below (below_drewN (Below.refl _ _) _))
                  rw [HD.out i' hlt] at this; exact this
                have hne : (o' i' != o' i') = false := by simp
                clear hxo
                go_wp2
                go_quiet ((go_at_call 21; exact (HC.out _).mono (fun _ _ ⟨he, hm⟩ => ⟨he, _, hm⟩)))
                go_wp2
                go_roundw
                case rel => exact ⟨i' + 1, _, by omega, by go_num, by first | rfl | exact World.drewN_drewN _ _ _⟩
                case measure => simp [intOf]; omega
              · go_wp2
                go_ret
                exact ⟨rfl, below_drewN HB.out _⟩
      · go_wp2
        go_loopw [13] (fun i wr => ∃ s q : Nat, s ≤ S + 1 ∧ i = .int .i64 s ∧ wr = w4.drewN q) (fun i _ => S + 1 - (intOf i).toNat)
        case atStart => exact ⟨0, 0, Nat.zero_le _, rfl, rfl⟩
        case round =>
          obtain ⟨s, q, hs, rfl, rfl⟩ := hrel
          by_cases hlt : s < S + 1
          · obtain ⟨c, hcs, hcs'⟩ : ∃ c : Nat, w4.cell? ⟨g1, s, none⟩ = some (.int .i64 (c : Int)) ∧ w4.cell? ⟨g1', s, none⟩ = some (.int .i64 (c : Int)) := ⟨_, hr1.cell hlt, hr1'.cell hlt⟩
            have hi1 : (s : Int) < (S : Int) + 1 := by omega
            have hne : ((c : Int) != (c : Int)) = false := by simp
            go_wp2
            go_quiet (fail)
            go_wp2
            go_roundw
            case rel => exact ⟨s + 1, _, by omega, by go_num, by first | rfl | exact World.drewN_drewN _ _ _⟩
            case measure => simp [intOf]; omega
          · go_wp2
            go_loopw [14] (fun i wr => ∃ i' q : Nat, i' ≤ m ∧ i = .int .i64 i' ∧ wr = w4.drewN q) (fun i _ => m - (intOf i).toNat)
            case atStart => exact ⟨0, q, Nat.zero_le _, rfl, rfl⟩
            case round =>
              clear hs hlt
              obtain ⟨i', q, hi, rfl, rfl⟩ := hrel
              by_cases hlt : i' < m
              · have hco := hr2'.cell hlt
                have hin : (i' : Int) < (m : Int) := by omega
                have hxo : oo.isNone = false → 0 ≤ (i' : Int) ∧ (i' : Int) < (m : Int) := (fun _ => by omega)
                have HC : Hid (∀ r, Calls Try.prog 21 #[.slice oo m m, .int .i64 (i' : Int)] (w4.drewN r) fun e w' => e = .returned (.int .i64 (o' i')) ∧ w' = w4.drewN r) := fun r => by
                  have := moveAt_any oo m m o (i' : Int) hxo (by omega) (w4.drewN r) (hI4.below (below_drewN (Below.refl _ _) _))
                  rw [HD.out i' hlt] at this; exact this
                have hne : (o' i' != o' i') = false := by simp
                clear hxo
                go_wp2
                go_quiet ((go_at_call 21; exact (HC.out _).mono (fun _ _ ⟨he, hm⟩ => ⟨he, _, hm⟩)))
                go_wp2
                go_roundw
                case rel => exact ⟨i' + 1, _, by omega, by go_num, by first | rfl | exact World.drewN_drewN _ _ _⟩
                case measure => simp [intOf]; omega
              · go_wp2
                go_ret
                exact ⟨rfl, below_drewN HB.out _⟩
set_option maxRecDepth 100000 in
set_option maxHeartbeats 4000000 in
theorem law7_some (mo : Option Addr) (a : Addr) (na ac : Nat) (n mc S : Nat) (f g z : Nat → Int) (w : World) (hna : na ≤ 131072) (hsum : 16 * n + 8 * na ≤ 1048576)
    (hn : n ≤ 65536) (hS : S ≤ 65536) (hm0 : Hid (mo = none → n = 0)) (hp : PairsAt w mo n f g) (hI : IntsAt w (some a) na z) (K : Nat → Int) (hx : Hid (∀ j, j < n → (some a).isNone = false → 0 ≤ f j ∧ f j < (na : Int)))
    (hv : Hid (∀ j, j < n → atOf (some a).isNone z (f j) = K j)) (hK : Hid (∀ j, j < n → InR K S j)) :
    Calls Try.prog 7 #[.slice mo n mc, .slice (some a) na ac, .int .i64 (S : Int)] w fun e w' => e = .returned (.bool true) ∧ Below w.heap.size w w' := by
  have hq := neqnil26'
  have d1 : decide ((65536 : Int) < (n : Int)) = false := decide_eq_false (by omega)
  have d1' : decide ((131072 : Int) < (na : Int)) = false := decide_eq_false (by omega)
  have d2 : decide ((1048576 : Int) < 16 * (n : Int) + 8 * (na : Int)) = false := decide_eq_false (by omega)
  have d5 : decide ((65536 : Int) < (S : Int)) = false := decide_eq_false (by omega)
  have d6 : decide ((S : Int) < 0) = false := decide_eq_false (by omega)
  go_enter Try.func7, Try.ntmps7
  go_wp2_with (go_at_call 19; refine (bytes19 _ _ _ _ _ _ _ _ (by omega)).mono ?_; rintro e w' ⟨rfl, rfl⟩)
  go_loopw [7] (fun i wr => ∃ k : Nat, k ≤ n ∧ i = .int .i64 k ∧ w = wr) (fun i _ => n - (intOf i).toNat)
  case atStart => exact ⟨0, Nat.zero_le _, rfl, rfl⟩
  case round =>
    obtain ⟨k, hk, rfl, rfl⟩ := hrel
    by_cases hlt : k < n
    · obtain ⟨b, off, e, hc1, hc2⟩ := hp k hlt
      subst e
      have hx' := hx.out k hlt
      have HV := Hid.in (hv.out k hlt)
      obtain ⟨hy0, hy1⟩ := hK.out k hlt
      obtain ⟨hx0, hx1⟩ := hx' rfl
      go_wp2_with fail
      refine (stateOf_any (some a) na ac z _ hx' (by omega) _ hI).mono ?_
      rintro e w' ⟨rfl, rfl⟩
      rw [HV.out]
      go_wp2
      go_roundw
      case rel => exact ⟨k + 1, by omega, by go_num, by trivial⟩
      case measure => simp [intOf]; omega
    · go_wp2_with fail
      clear hlt hk
      refine (cloneMoves_any mo n mc f g (by omega) _ hm0.out hp).mono ?_
      rintro e w1 ⟨mo', rfl, -, hp1, hb1⟩
      go_wp2_with fail
      refine (cloneInts_any (some a) na ac z (by omega) _ (fun h => by cases h) (hI.below hb1)).mono ?_
      rintro e w2 ⟨ao', rfl, hnn, hI2, hb2⟩
      have hp2 := hp1.below hb2
      have HN : Hid (ao'.isNone = (some a).isNone) := hnn
      clear hnn
      go_wp2_with fail
      refine (zzGroup_any mo' ao' n n na na S f g z K _ hn (by omega) hS hp2 hI2 (by rw [HN.out]; exact hx) (by rw [HN.out]; exact hv) hK).mono ?_
      rintro e w3 ⟨g1, oo, m, o, rfl, hr1, hm0', hm1, hI3, hd, hb3⟩
      have HO := Hid.in (And.intro hm0' (And.intro hm1 hd))
      clear hm0' hm1 hd
      go_wp2_with fail
      refine (zzDeal_any mo' ao' n n na na S f g z K 0 S _ hn (by omega) (by omega) (by omega) hS (by omega) (hp2.below hb3) (hI2.below hb3) (by rw [HN.out]; exact hx.out) (fun j hj => by rw [HN.out, hv.out j hj]; omega) (fun j hj => by have := hK.out j hj; unfold InR at this; omega)).mono ?_
      rintro e w4 ⟨g1', g2', o', rfl, hr1', hr2', hd', hb4⟩
      have HB : Hid (Below w.heap.size w w4) := ((hb1.trans (hb2.mono hb1.size)).trans (hb3.mono (Nat.le_trans hb1.size hb2.size))).trans (hb4.mono (Nat.le_trans (Nat.le_trans hb1.size hb2.size) hb3.size))
      have hM := cLt_all K S n hK.out
      rw [hM] at hr2'
      rw [hM]
      have hr1 : Row w4 g1 (S + 1) (fun s => cLt K s n) := hr1.same (hb4.block g1 hr1.lt)
      have hI4 := hI3.below hb4
      have HD : Hid (∀ i, i < n → atOf oo.isNone o (i : Int) = o' i) := by
        intro i hi
        obtain ⟨j, h1, h2, h3⟩ := pos_onto_all K S n i (by rw [hM]; exact hi)
        have e1 := HO.out.2.2 j h1
        have e2 := hd' j (Nat.zero_le _) h1 h2
        rw [h3] at e1 e2
        rw [e1, e2]
      clear hp hI hb1 hb2 hb3 hb4 hp1 hp2 hI2 hI3 hm0 hM hd' hx hv
      rcases (show (oo.isNone = true) ∨ (oo.isNone = false ∧ m = n) from by
        cases h : oo.isNone
        · exact .inr ⟨rfl, HO.out.2.1 h⟩
        · exact .inl rfl) with hoo | ⟨hoo, rfl⟩
      · go_wp2
        go_loopw [13] (fun i wr => ∃ s q : Nat, s ≤ S + 1 ∧ i = .int .i64 s ∧ wr = w4.drewN q) (fun i _ => S + 1 - (intOf i).toNat)
        case atStart => exact ⟨0, 0, Nat.zero_le _, rfl, rfl⟩
        case round =>
          obtain ⟨s, q, hs, rfl, rfl⟩ := hrel
          by_cases hlt : s < S + 1
          · obtain ⟨c, hcs, hcs'⟩ : ∃ c : Nat, w4.cell? ⟨g1, s, none⟩ = some (.int .i64 (c : Int)) ∧ w4.cell? ⟨g1', s, none⟩ = some (.int .i64 (c : Int)) := ⟨_, hr1.cell hlt, hr1'.cell hlt⟩
            have hi1 : (s : Int) < (S : Int) + 1 := by omega
            have hne : ((c : Int) != (c : Int)) = false := by simp
            go_wp2
            go_quiet (fail)
            go_wp2
            go_roundw
            case rel => exact ⟨s + 1, _, by omega, by go_num, by first | rfl | exact World.drewN_drewN _ _ _⟩
            case measure => simp [intOf]; omega
          · go_wp2
            go_loopw [14] (fun i wr => ∃ i' q : Nat, i' ≤ n ∧ i = .int .i64 i' ∧ wr = w4.drewN q) (fun i _ => n - (intOf i).toNat)
            case atStart => exact ⟨0, q, Nat.zero_le _, rfl, rfl⟩
            case round =>
              clear hs hlt
              obtain ⟨i', q, hi, rfl, rfl⟩ := hrel
              by_cases hlt : i' < n
              · have hco := hr2'.cell hlt
                have hin : (i' : Int) < (n : Int) := by omega
                have hxo : oo.isNone = false → 0 ≤ (i' : Int) ∧ (i' : Int) < (m : Int) := (fun h => by rw [hoo] at h; cases h)
                have HC : Hid (∀ r, Calls Try.prog 21 #[.slice oo m m, .int .i64 (i' : Int)] (w4.drewN r) fun e w' => e = .returned (.int .i64 (o' i')) ∧ w' = w4.drewN r) := fun r => by
                  have := moveAt_any oo m m o (i' : Int) hxo (by have := HO.out.1 hoo; omega) (w4.drewN r) (hI4.below (below_drewN (Below.refl _ _) _))
                  rw [HD.out i' hlt] at this; exact this
                have hne : (o' i' != o' i') = false := by simp
                clear hxo
                go_wp2
                go_quiet ((go_at_call 21; exact (HC.out _).mono (fun _ _ ⟨he, hm⟩ => ⟨he, _, hm⟩)))
                go_wp2
                go_roundw
                case rel => exact ⟨i' + 1, _, by omega, by go_num, by first | rfl | exact World.drewN_drewN _ _ _⟩
                case measure => simp [intOf]; omega
              · go_wp2
                go_ret
                exact ⟨rfl, below_drewN HB.out _⟩
      · go_wp2
        go_loopw [13] (fun i wr => ∃ s q : Nat, s ≤ S + 1 ∧ i = .int .i64 s ∧ wr = w4.drewN q) (fun i _ => S + 1 - (intOf i).toNat)
        case atStart => exact ⟨0, 0, Nat.zero_le _, rfl, rfl⟩
        case round =>
          obtain ⟨s, q, hs, rfl, rfl⟩ := hrel
          by_cases hlt : s < S + 1
          · obtain ⟨c, hcs, hcs'⟩ : ∃ c : Nat, w4.cell? ⟨g1, s, none⟩ = some (.int .i64 (c : Int)) ∧ w4.cell? ⟨g1', s, none⟩ = some (.int .i64 (c : Int)) := ⟨_, hr1.cell hlt, hr1'.cell hlt⟩
            have hi1 : (s : Int) < (S : Int) + 1 := by omega
            have hne : ((c : Int) != (c : Int)) = false := by simp
            go_wp2
            go_quiet (fail)
            go_wp2
            go_roundw
            case rel => exact ⟨s + 1, _, by omega, by go_num, by first | rfl | exact World.drewN_drewN _ _ _⟩
            case measure => simp [intOf]; omega
          · go_wp2
            go_loopw [14] (fun i wr => ∃ i' q : Nat, i' ≤ m ∧ i = .int .i64 i' ∧ wr = w4.drewN q) (fun i _ => m - (intOf i).toNat)
            case atStart => exact ⟨0, q, Nat.zero_le _, rfl, rfl⟩
            case round =>
              clear hs hlt
              obtain ⟨i', q, hi, rfl, rfl⟩ := hrel
              by_cases hlt : i' < m
              · have hco := hr2'.cell hlt
                have hin : (i' : Int) < (m : Int) := by omega
                have hxo : oo.isNone = false → 0 ≤ (i' : Int) ∧ (i' : Int) < (m : Int) := (fun _ => by omega)
                have HC : Hid (∀ r, Calls Try.prog 21 #[.slice oo m m, .int .i64 (i' : Int)] (w4.drewN r) fun e w' => e = .returned (.int .i64 (o' i')) ∧ w' = w4.drewN r) := fun r => by
                  have := moveAt_any oo m m o (i' : Int) hxo (by omega) (w4.drewN r) (hI4.below (below_drewN (Below.refl _ _) _))
                  rw [HD.out i' hlt] at this; exact this
                have hne : (o' i' != o' i') = false := by simp
                clear hxo
                go_wp2
                go_quiet ((go_at_call 21; exact (HC.out _).mono (fun _ _ ⟨he, hm⟩ => ⟨he, _, hm⟩)))
                go_wp2
                go_roundw
                case rel => exact ⟨i' + 1, _, by omega, by go_num, by first | rfl | exact World.drewN_drewN _ _ _⟩
                case measure => simp [intOf]; omega
              · go_wp2
                go_ret
                exact ⟨rfl, below_drewN HB.out _⟩
/-- The walk, whole. -/
theorem law7_walk (mo ao : Option Addr) (n mc na ac : Nat) (ns : Int) (f g z : Nat → Int) (w : World) (hm0 : mo = none → n = 0 ∧ mc = 0) (ha0 : ao = none → na = 0 ∧ ac = 0) (hnm : n ≤ maxLen) (hnam : na ≤ maxLen)
    (hp : PairsAt w mo n f g) (hI : IntsAt w ao na z) (hns : -9223372036854775808 ≤ ns ∧ ns ≤ 9223372036854775807) :
    Calls Try.prog 7 #[.slice mo n mc, .slice ao na ac, .int .i64 ns] w fun e w' => e = .returned (.bool true) ∧ Below w.heap.size w w' := by
  by_cases hok : n ≤ 65536 ∧ na ≤ 131072 ∧ 16 * n + 8 * na ≤ 1048576 ∧ 0 ≤ ns ∧ ns ≤ 65536
  · obtain ⟨h1, h2, h3, h4, h5⟩ := hok
    obtain ⟨S, rfl⟩ := Int.eq_ofNat_of_zero_le h4
    cases ao with
    | none =>
      obtain ⟨rfl, rfl⟩ := ha0 rfl
      by_cases hin : ∀ j, j < n → ((none : Option Addr).isNone = false → 0 ≤ f j ∧ f j < ((0 : Nat) : Int)) ∧ 0 ≤ atOf (none : Option Addr).isNone z (f j) ∧ atOf (none : Option Addr).isNone z (f j) < (S : Int)
      · exact law7_nil mo n mc S f g z w h1 (by omega) (fun h => (hm0 h).1) hp hI (fun j => atOf (none : Option Addr).isNone z (f j)) (fun j hj => (hin j hj).1) (fun j hj => rfl) (fun j hj => (hin j hj).2)
      · exact law7_bad_nil mo n mc S f g z w h1 (by omega) hp hI hin
    | some a =>
      by_cases hin : ∀ j, j < n → ((some a : Option Addr).isNone = false → 0 ≤ f j ∧ f j < (na : Int)) ∧ 0 ≤ atOf (some a : Option Addr).isNone z (f j) ∧ atOf (some a : Option Addr).isNone z (f j) < (S : Int)
      · exact law7_some mo a na ac n mc S f g z w h2 h3 h1 (by omega) (fun h => (hm0 h).1) hp hI (fun j => atOf (some a : Option Addr).isNone z (f j)) (fun j hj => (hin j hj).1) (fun j hj => rfl) (fun j hj => (hin j hj).2)
      · exact law7_bad_some mo a na ac n mc S f g z w h2 h3 h1 (by omega) hp hI hin
  · exact law7_out mo ao n mc na ac ns w hnm hnam hns hok
end Go.Proofs.Qxb6003473a
