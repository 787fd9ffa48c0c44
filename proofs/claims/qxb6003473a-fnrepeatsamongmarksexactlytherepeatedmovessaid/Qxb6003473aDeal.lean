/-
  'lists.dealMoves' (function 26) and 'lists.ZZDealMoves' (function 17), walked once.
-/
import Derived.Test.Qxb6003473aSmall
import Derived.Test.Qxb6003473aCnt
import Derived.RegionTactic
import Derived.ChangeAlike
import Derived.BigRegion
namespace Go.Proofs.Qxb6003473a
open Go.RowKit Go.PlainAid
set_option linter.unusedVariables false

theorem out_of (x lo : Int) (S : Nat) (h0 : 0 ≤ lo) (h1 : lo + S ≤ 9223372036854775807) (hb : -9223372036854775808 ≤ x + lo ∧ x + lo ≤ 9223372036854775807) (hr : ¬ (0 ≤ x ∧ x < (S : Int))) :
    (S : Int) ≤ IntKind.u64.wrap (wrap64 x) := by
  rw [IntKind.wrap_u64]
  unfold wrap64
  omega

/-- The starts behind the counting of the first k moves. -/
def st1 (K : Nat → Int) (S k s : Nat) : Int := if s < S then (cEq K s k : Int) else 0
/-- .. behind the sums up to place t. -/
def st2 (K : Nat → Int) (S n t s : Nat) : Int := if s < t then (cLt K (min (s + 1) S) n : Int) else st1 K S n s
/-- .. while the moves from q on are dealt. -/
def st3 (K : Nat → Int) (S n q s : Nat) : Int := if s < S then ((cLt K s n + cEq K s q : Nat) : Int) else (cLt K S n : Int)
/-- The moves from q on lie at their places. -/
def Dealt (K : Nat → Int) (S n q : Nat) (o : Nat → Int) : Prop := ∀ j, q ≤ j → j < n → InR K S j → o (pos K n j) = j

theorem st1_hit {K : Nat → Int} {S k t : Nat} (hs : K k = (t : Int)) (ht : t < S) (s : Nat) : (if s = t then ((cEq K t k : Nat) : Int) + 1 else st1 K S k s) = st1 K S (k + 1) s := by
  unfold st1
  by_cases e : s = t
  · subst e; rw [if_pos rfl, if_pos ht, cEq_hit K s k hs]; omega
  · rw [if_neg e]
    by_cases h : s < S
    · rw [if_pos h, if_pos h, cEq_miss K s k (by rw [hs]; omega)]
    · rw [if_neg h, if_neg h]
theorem st1_miss {K : Nat → Int} {S k : Nat} (hr : ¬ (0 ≤ K k ∧ K k < (S : Int))) (s : Nat) : st1 K S k s = st1 K S (k + 1) s := by
  unfold st1
  by_cases h : s < S
  · rw [if_pos h, if_pos h, cEq_miss K s k (by omega)]
  · rw [if_neg h, if_neg h]

theorem st2_start {K : Nat → Int} {S n : Nat} (s : Nat) (hs : s < S + 1) : st1 K S n s = st2 K S n 1 s := by
  unfold st2
  by_cases e : s < 1
  · rw [if_pos e]
    obtain rfl : s = 0 := by omega
    unfold st1
    by_cases h : 0 < S
    · rw [if_pos h, show min (0 + 1) S = 0 + 1 by omega, cLt_succ, cLt_zero]; omega
    · rw [if_neg h, show min (0 + 1) S = 0 by omega, cLt_zero]; rfl
  · rw [if_neg e]
theorem st2_val {K : Nat → Int} {S n : Nat} (t : Nat) (h1 : 1 ≤ t) (h2 : t ≤ S) : st2 K S n t t + st2 K S n t (t - 1) = (cLt K (min (t + 1) S) n : Int) := by
  unfold st2
  rw [if_neg (by omega), if_pos (by omega), show t - 1 + 1 = t by omega, show min t S = t by omega]
  unfold st1
  by_cases h : t < S
  · rw [if_pos h, show min (t + 1) S = t + 1 by omega, cLt_succ]; omega
  · rw [if_neg h, show min (t + 1) S = S by omega, show t = S by omega]; omega
theorem st2_step {K : Nat → Int} {S n t : Nat} (s : Nat) : (if s = t then (cLt K (min (t + 1) S) n : Int) else st2 K S n t s) = st2 K S n (t + 1) s := by
  unfold st2
  by_cases e : s = t
  · subst e; rw [if_pos rfl, if_pos (by omega)]
  · rw [if_neg e]
    by_cases h : s < t
    · rw [if_pos h, if_pos (by omega)]
    · rw [if_neg h, if_neg (by omega)]
theorem st1_nat (K : Nat → Int) (S n s : Nat) : ∃ c : Nat, st1 K S n s = (c : Int) ∧ c ≤ n := by
  unfold st1
  by_cases h : s < S
  · rw [if_pos h]; exact ⟨_, rfl, cEq_le _ _ _⟩
  · rw [if_neg h]; exact ⟨0, rfl, Nat.zero_le _⟩
theorem st2_nat (K : Nat → Int) (S n t s : Nat) : ∃ c : Nat, st2 K S n t s = (c : Int) ∧ c ≤ n := by
  unfold st2
  by_cases h : s < t
  · rw [if_pos h]; exact ⟨_, rfl, cLt_le _ _ _⟩
  · rw [if_neg h]; exact st1_nat K S n s
theorem st2_end {K : Nat → Int} {S n : Nat} (s : Nat) (hs : s < S + 1) : st2 K S n (S + 1) s = st3 K S n n s := by
  unfold st2 st3
  rw [if_pos hs]
  by_cases h : s < S
  · rw [if_pos h, show min (s + 1) S = s + 1 by omega, cLt_succ]
  · rw [if_neg h, show min (s + 1) S = S by omega]
theorem st3_hit {K : Nat → Int} {S n q t : Nat} (hs : K q = (t : Int)) (ht : t < S) (s : Nat) : (if s = t then ((cLt K t n + cEq K t q : Nat) : Int) else st3 K S n (q + 1) s) = st3 K S n q s := by
  unfold st3
  by_cases e : s = t
  · subst e; rw [if_pos rfl, if_pos ht]
  · rw [if_neg e]
    by_cases h : s < S
    · rw [if_pos h, if_pos h, cEq_miss K s q (by rw [hs]; omega)]
    · rw [if_neg h, if_neg h]
theorem st3_miss {K : Nat → Int} {S n q : Nat} (hr : ¬ (0 ≤ K q ∧ K q < (S : Int))) (s : Nat) : st3 K S n (q + 1) s = st3 K S n q s := by
  unfold st3
  by_cases h : s < S
  · rw [if_pos h, if_pos h, cEq_miss K s q (by omega)]
  · rw [if_neg h, if_neg h]
theorem st3_end {K : Nat → Int} {S n : Nat} (s : Nat) (hs : s < S + 1) : st3 K S n 0 s = (cLt K s n : Int) := by
  unfold st3
  by_cases h : s < S
  · rw [if_pos h]; rfl
  · rw [if_neg h, show s = S by omega]
theorem dealt_hit {K : Nat → Int} {S n q t : Nat} {o : Nat → Int} (h : Dealt K S n (q + 1) o) (hq : q < n) (hs : K q = (t : Int)) :
    Dealt K S n q (fun i => if i = cLt K t n + cEq K t q then (q : Int) else o i) := by
  intro j h1 h2 h3
  rw [← pos_eq K n q t hs]
  by_cases e : j = q
  · subst e; simp
  · have hne : ¬ pos K n j = pos K n q := fun he => e (pos_inj K n j q h3.1 (by omega) h2 hq he)
    simp only [hne, if_false]
    exact h j (by omega) h2 h3
theorem dealt_miss {K : Nat → Int} {S n q : Nat} {o : Nat → Int} (h : Dealt K S n (q + 1) o) (hr : ¬ (0 ≤ K q ∧ K q < (S : Int))) : Dealt K S n q o := by
  intro j h1 h2 h3
  by_cases e : j = q
  · subst e; exact absurd h3 hr
  · exact h j (by omega) h2 h3

set_option maxHeartbeats 2000000 in
theorem deal_any (mo ao : Option Addr) (n mc na ac S : Nat) (f g z K : Nat → Int) (lo hi : Int) (w : World)
    (hn : n ≤ 65536) (hna : na ≤ 1048576) (hlo : 0 ≤ lo) (hhi : hi - lo = S) (hS : S ≤ 65536) (hmx : hi ≤ 9223372036854775807)
    (hp : PairsAt w mo n f g) (hI : IntsAt w ao na z) (hx : ∀ j, j < n → ao.isNone = false → 0 ≤ f j ∧ f j < (na : Int))
    (hv : ∀ j, j < n → atOf ao.isNone z (f j) = K j + lo) (hvb : ∀ j, j < n → -9223372036854775808 ≤ K j + lo ∧ K j + lo ≤ 9223372036854775807) :
    Calls Try.prog 26 #[.slice mo n mc, .slice ao na ac, .int .i64 lo, .int .i64 hi] w fun e w' => ∃ g1 g2 o,
      e = .returned (.agg #[.slice (some ⟨g2, 0, none⟩) (cLt K S n) (cLt K S n), .slice (some ⟨g1, 0, none⟩) (S + 1) (S + 1)]) ∧
      Row w' g1 (S + 1) (fun s => cLt K s n) ∧ Row w' g2 (cLt K S n) o ∧ Dealt K S n 0 o ∧ Below w.heap.size w w' := by
  have hmk := make_ints .u64 (S + 1) ((S : Int) + 1) (by omega) (by omega)
  have hmx' : lo + S ≤ 9223372036854775807 := by omega
  go_enter Try.func26, Try.ntmps26
  go_wp2
  go_loopw [27] (fun i wr => ∃ k : Nat, k ≤ n ∧ i = .int .i64 k ∧ Row wr (w.heap.size + 1) (S + 1) (st1 K S k) ∧ Box wr w.heap.size ∧ Below w.heap.size w wr) (fun i _ => n - (intOf i).toNat)
  case atStart =>
    refine ⟨0, Nat.zero_le _, rfl, ?_, ?_, ?_⟩
    · have := Row.new (w.alloc (.cells #[.slice none 0 0, .slice none 0 0] 41)) (S + 1) (fun _ => 0)
      rw [World.size_alloc] at this
      exact this.congr (fun s hs => by unfold st1; split <;> rfl)
    · exact ⟨_, _, (heap_alloc_lt _ _ (by simp)).trans (heap_alloc_new w _)⟩
    · exact ((Below.refl _ _).alloc (Nat.le_refl _) _).alloc (by simp) _
  case round =>
    obtain ⟨k, hk, rfl, hrow, hbox, hb⟩ := hrel
    by_cases hlt : k < n
    · obtain ⟨b, off, e, hc1, hc2⟩ := (hp.below hb) k hlt
      subst e
      have hx' := hx k hlt
      have HV : Hid (atOf ao.isNone z (f k) = K k + lo) := hv k hlt
      have hvb' := hvb k hlt
      have hwl := hrow.lt
      clear hx hv hvb hp
      by_cases hr : 0 ≤ K k ∧ K k < (S : Int)
      · obtain ⟨hr0, hr1⟩ := hr
        obtain ⟨s, hs⟩ := Int.eq_ofNat_of_zero_le hr0
        have HS : Hid (K k = (s : Int)) := hs
        rw [hs] at hr1
        clear hr0
        obtain ⟨c, HC, hck, hcs⟩ : ∃ c : Nat, Hid (cEq K s k = c) ∧ c ≤ k ∧ wr.cell? ⟨w.heap.size + 1, s, none⟩ = some (.int .i64 (c : Int)) := by
          have := hrow.cell (i := s) (by omega)
          rw [st1, if_pos (by omega)] at this
          exact ⟨_, rfl, cEq_le _ _ _, this⟩
        have hfs := hrow.free s
        go_wp2_with fail
        refine (of_any _ _ _ z _ hx' hna _ ?_).mono ?_
        · exact hI.below (hb.alloc hb.size _)
        rintro e w' ⟨rfl, rfl⟩
        rw [HV.out]
        go_wp2
        go_roundw
        case rel =>
          refine ⟨k + 1, by omega, by go_num, ?_, ?_, ?_⟩
          · have h1 := hrow.set s ((c : Int) + 1)
            rw [← HC.out] at h1
            rw [← HC.out]
            exact (h1.congr (fun j hj => st1_hit HS.out (by omega) j)).same (heap_alloc_lt _ _ (by simpa using hwl))
          · exact hbox.same ((heap_alloc_lt _ _ (by simpa using hbox.lt)).trans (heap_set_other _ (by simp)))
          · exact (hb.setCell (by simp) _).alloc (by simpa using hb.size) _
        case measure => simp [intOf]; omega
      · have hout := out_of (K k) lo S hlo hmx' hvb' hr
        go_wp2_with fail
        refine (of_any _ _ _ z _ hx' hna _ ?_).mono ?_
        · exact hI.below (hb.alloc hb.size _)
        rintro e w' ⟨rfl, rfl⟩
        rw [HV.out]
        go_wp2
        go_roundw
        case rel =>
          refine ⟨k + 1, by omega, by go_num, ?_, ?_, ?_⟩
          · exact (hrow.congr (fun j hj => st1_miss hr j)).same (heap_alloc_lt _ _ hwl)
          · exact hbox.same (heap_alloc_lt _ _ hbox.lt)
          · exact hb.alloc hb.size _
        case measure => simp [intOf]; omega
    · have hkn : k = n := by omega
      subst hkn
      go_wp2
      go_loopw [14] (fun i w2 => ∃ t : Nat, 1 ≤ t ∧ t ≤ S + 1 ∧ i = .int .u64 t ∧ Row w2 (w.heap.size + 1) (S + 1) (st2 K S k t) ∧ Box w2 w.heap.size ∧ Below w.heap.size w w2) (fun i _ => S + 1 - (intOf i).toNat)
      case atStart => exact ⟨1, by omega, by omega, rfl, hrow.congr (fun s hs => st2_start s hs), hbox, hb⟩
      case round =>
        clear hrow hbox hb
        obtain ⟨t, ht1, ht2, rfl, hrow, hbox, hb⟩ := hrel
        by_cases hlt2 : t ≤ S
        · have hw1 : IntKind.u64.wrap ((t : Int) - 1) = ((t - 1 : Nat) : Int) := by rw [IntKind.wrap_u64]; omega
          obtain ⟨c0, HC0, hc0, hcs0⟩ : ∃ c : Nat, Hid (st2 K S k t t = (c : Int)) ∧ c ≤ k ∧ wr.cell? ⟨w.heap.size + 1, t, none⟩ = some (.int .i64 (c : Int)) := by
            obtain ⟨c, e, h⟩ := st2_nat K S k t t
            exact ⟨c, e, h, by rw [← e]; exact hrow.cell (by omega)⟩
          obtain ⟨c1, HC1, hc1, hcs1⟩ : ∃ c : Nat, Hid (st2 K S k t (t - 1) = (c : Int)) ∧ c ≤ k ∧ wr.cell? ⟨w.heap.size + 1, t - 1, none⟩ = some (.int .i64 (c : Int)) := by
            obtain ⟨c, e, h⟩ := st2_nat K S k t (t - 1)
            exact ⟨c, e, h, by rw [← e]; exact hrow.cell (by omega)⟩
          have hfs := hrow.free t
          have hb1 : (t : Int) - 1 < (S : Int) + 1 := by omega
          have hb2 : (t : Int) < (S : Int) + 1 := by omega
          go_wp2
          go_region
          all_goals go_wp2
          all_goals
            go_roundw
            case rel =>
              refine ⟨t + 1, by omega, by omega, by go_num, ?_, ?_, ?_⟩
              · have h1 := hrow.set t ((c0 : Int) + (c1 : Int))
                rw [← HC0.out, ← HC1.out, st2_val t ht1 hlt2] at h1
                rw [← HC0.out, ← HC1.out, st2_val t ht1 hlt2]
                exact h1.congr (fun j hj => st2_step j)
              · exact hbox.same (heap_set_other wr (by simp))
              · exact (hb.setCell (by simp) _).drew
            case measure => simp [intOf]; omega
        · have hM := cLt_le K S k
          have hrow : Row wr (w.heap.size + 1) (S + 1) (st3 K S k k) := by
            have htS : t = S + 1 := by omega
            subst htS
            exact hrow.congr (fun s hs => st2_end s hs)
          have hcS : wr.cell? ⟨w.heap.size + 1, S, none⟩ = some (.int .i64 (cLt K S k : Int)) := by
            have := hrow.cell (i := S) (by omega)
            rwa [st3, if_neg (by omega)] at this
          have hmk2 := make_ints .i64 (cLt K S k) (cLt K S k) rfl (by omega)
          have hwl := hrow.lt
          go_wp2
          go_loopw [16] (fun i w3 => ∃ (q : Nat) (o : Nat → Int), q ≤ k ∧ i = .int .i64 ((q : Int) - 1) ∧ Row w3 (w.heap.size + 1) (S + 1) (st3 K S k q) ∧ Row w3 wr.heap.size (cLt K S k) o ∧ Dealt K S k q o ∧ Box w3 w.heap.size ∧ Below w.heap.size w w3) (fun i _ => (intOf i + 1).toNat)
          case atStart =>
            refine ⟨k, _, Nat.le_refl _, rfl, hrow.same (heap_alloc_lt _ _ hwl), Row.new _ _ _, fun j h1 h2 => by omega, hbox.same (heap_alloc_lt _ _ hbox.lt), hb.alloc hb.size _⟩
          case round =>
            obtain ⟨q, o, hq, rfl, hrow1, hrow2, hd, hbox1, hb1⟩ := hrel
            cases q with
            | succ q =>
              rw [show (((q + 1 : Nat) : Int) - 1) = (q : Int) by omega]
              obtain ⟨b, off, e, hc1, hc2⟩ := (hp.below hb1) q (by omega)
              subst e
              have hx' := hx q (by omega)
              have HV : Hid (atOf ao.isNone z (f q) = K q + lo) := hv q (by omega)
              have hvb' := hvb q (by omega)
              have hwl1 := hrow1.lt
              have hwl2 := hrow2.lt
              clear hx hv hvb hp hc2 hcS hmk hmk2
              by_cases hr : 0 ≤ K q ∧ K q < (S : Int)
              · obtain ⟨p, HP, hpM, hcs⟩ : ∃ p : Nat, Hid (pos K k q = p) ∧ p < cLt K S k ∧ wr.cell? ⟨w.heap.size + 1, (K q).toNat, none⟩ = some (.int .i64 ((p : Int) + 1)) := by
                  refine ⟨_, rfl, pos_lt_all K S k q hr (by omega), ?_⟩
                  have := hrow1.cell (i := (K q).toNat) (by omega)
                  rw [st3, if_pos (by omega), cEq_hit K _ q (by omega)] at this
                  rw [this, pos]; congr 2
                obtain ⟨hr0, hr1⟩ := hr
                obtain ⟨s, hs⟩ := Int.eq_ofNat_of_zero_le hr0
                have HS : Hid (K q = (s : Int)) := hs
                rw [hs] at hr1
                rw [hs, Int.toNat_natCast] at hcs
                clear hr0
                obtain ⟨x, hco⟩ : ∃ x, wr.cell? ⟨_, p, none⟩ = some x := ⟨_, hrow2.cell hpM⟩
                have hfs := hrow1.free s
                have hfo := hrow2.free p
                go_wp2_with fail
                refine (of_any _ _ _ z _ hx' hna _ (hI.below hb1)).mono ?_
                rintro e w' ⟨rfl, rfl⟩
                rw [HV.out]
                go_wp2
                go_roundw
                case rel =>
                  refine ⟨q, fun i => if i = p then (q : Int) else o i, by omega, by go_num, ?_, ?_, ?_, ?_, ?_⟩
                  · have h1 := hrow1.set s (p : Int)
                    rw [show p = cLt K s k + cEq K s q from by rw [← HP.out]; exact pos_eq K k q s HS.out] at h1
                    rw [show p = cLt K s k + cEq K s q from by rw [← HP.out]; exact pos_eq K k q s HS.out]
                    exact (h1.congr (fun j hj => st3_hit HS.out (by omega) j)).same (heap_set_other _ (by simp; omega))
                  · exact (hrow2.same (heap_set_other _ (by simp; omega))).set p (q : Int)
                  · rw [show p = cLt K s k + cEq K s q from by rw [← HP.out]; exact pos_eq K k q s HS.out]
                    exact dealt_hit hd (by omega) HS.out
                  · exact hbox1.same ((heap_set_other _ (by simp; omega)).trans (heap_set_other _ (by simp)))
                  · exact (hb1.setCell (by simp) _).setCell (by simp; omega) _
                case measure => simp [intOf]
              · have hout := out_of (K q) lo S hlo hmx' hvb' hr
                go_wp2_with fail
                refine (of_any _ _ _ z _ hx' hna _ (hI.below hb1)).mono ?_
                rintro e w' ⟨rfl, rfl⟩
                rw [HV.out]
                go_wp2
                go_roundw
                case rel => exact ⟨q, o, by omega, by go_num, hrow1.congr (fun j hj => st3_miss hr j), hrow2, dealt_miss hd hr, hbox1, hb1⟩
                case measure => simp [intOf]
            | zero =>
              obtain ⟨x, y, hxy⟩ := hbox1
              have hc0 : wr.cell? ⟨w.heap.size, 0, none⟩ = some x := by rw [cell_of_row wr _ _ _ _ _ hxy]; rfl
              have hc1 : wr.cell? ⟨w.heap.size, 1, none⟩ = some y := by rw [cell_of_row wr _ _ _ _ _ hxy]; rfl
              have hf0 := frozen_of_row wr _ 0 _ _ hxy
              have hf1 := frozen_of_row wr _ 1 _ _ hxy
              clear hcS hmk hmk2 hx hv hvb hp
              go_wp2
              have e0 := fun X => World.cell?_setCell_same (v := X) wr _ hc0
              have e1 := fun X => (World.cell?_setCell_other (a := (⟨w.heap.size, 0, none⟩ : Addr)) (b := ⟨w.heap.size, 1, none⟩) (v := X) wr (by simp)).trans hc1
              have e2 := fun X Y => World.cell?_setCell_same (v := Y) _ _ (e1 X)
              refine bodyPost_ret (v := .agg #[.slice (some ⟨_, 0, none⟩) (cLt K S k) (cLt K S k), .slice (some ⟨w.heap.size + 1, 0, none⟩) (S + 1) (S + 1)]) (by simp [results, Try.results26, go_sem, e0, e2]; rfl) rfl ⟨_, _, o, rfl, ?_, ?_, hd, ?_⟩
              · exact (hrow1.congr (fun s hs => st3_end s hs)).same ((heap_set_other _ (by simp)).trans (heap_set_other _ (by simp)))
              · exact hrow2.same ((heap_set_other _ (by simp; omega)).trans (heap_set_other _ (by simp; omega)))
              · exact (hb1.setCell (by simp) _).setCell (by simp) _
/-- 'lists.ZZDealMoves': the order and the starts. -/
theorem zzDeal_any (mo ao : Option Addr) (n mc na ac S : Nat) (f g z K : Nat → Int) (lo hi : Int) (w : World)
    (hn : n ≤ 65536) (hna : na ≤ 1048576) (hlo : 0 ≤ lo) (hhi : hi - lo = S) (hS : S ≤ 65536) (hmx : hi ≤ 9223372036854775807)
    (hp : PairsAt w mo n f g) (hI : IntsAt w ao na z) (hx : ∀ j, j < n → ao.isNone = false → 0 ≤ f j ∧ f j < (na : Int))
    (hv : ∀ j, j < n → atOf ao.isNone z (f j) = K j + lo) (hvb : ∀ j, j < n → -9223372036854775808 ≤ K j + lo ∧ K j + lo ≤ 9223372036854775807) :
    Calls Try.prog 17 #[.slice mo n mc, .slice ao na ac, .int .i64 lo, .int .i64 hi] w fun e w' => ∃ g1 g2 o,
      e = .returned (.tuple #[.slice (some ⟨g2, 0, none⟩) (cLt K S n) (cLt K S n), .slice (some ⟨g1, 0, none⟩) (S + 1) (S + 1)]) ∧
      Row w' g1 (S + 1) (fun s => cLt K s n) ∧ Row w' g2 (cLt K S n) o ∧ Dealt K S n 0 o ∧ Below w.heap.size w w' := by
  go_enter Try.func17, Try.ntmps17
  go_wp2_with fail
  refine (deal_any mo ao n mc na ac S f g z K lo hi _ hn hna hlo hhi hS hmx hp hI hx hv hvb).mono ?_
  rintro e w1 ⟨g1, g2, o, rfl, hr1, hr2, hd, hb⟩
  have h1 := hr1.lt
  have h2 := hr2.lt
  clear hx hv hvb hp hI
  go_wp2
  go_quiet (fail)
  go_wp2
  go_ret2
  refine ⟨g1, g2, o, rfl, ?_, ?_, hd, ?_⟩
  · exact hr1.same (heap_alloc_lt _ _ h1)
  · exact hr2.same (heap_alloc_lt _ _ h2)
  · exact below_drewN (hb.alloc hb.size _) _
end Go.Proofs.Qxb6003473a
