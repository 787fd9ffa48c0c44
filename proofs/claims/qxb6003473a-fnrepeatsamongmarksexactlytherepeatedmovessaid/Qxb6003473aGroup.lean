/-
  'lists.byStates' (function 30), 'lists.groupMovesBy' (27) and 'lists.ZZGroupMovesBy' (20), walked once.
-/
import Derived.Test.Qxb6003473aDeal
import Derived.Test.Qxb6003473aCnt2
import Derived.Deep.RegionWith
namespace Go.Proofs.Qxb6003473a
open Go.RowKit Go.PlainAid
set_option linter.unusedVariables false

theorem Hid.in {p : Prop} (h : p) : Hid p := h
set_option maxHeartbeats 1000000 in
theorem byStates_any (mo ao : Option Addr) (n mc na ac : Nat) (f g z K : Nat → Int) (w : World) (hn : n ≤ 65536) (hna : na ≤ 1048576)
    (hp : PairsAt w mo n f g) (hI : IntsAt w ao na z) (hx : Hid (∀ j, j < n → ao.isNone = false → 0 ≤ f j ∧ f j < (na : Int)))
    (hv : Hid (∀ j, j < n → atOf ao.isNone z (f j) = K j)) :
    Calls Try.prog 30 #[.slice mo n mc, .slice ao na ac] w fun e w' => ∃ b q, e = .returned (.bool b) ∧ (b = true → Srt K n) ∧ w' = w.drewN q := by
  go_enter Try.func30, Try.ntmps30
  go_wp2
  go_loopw [5] (fun i wr => ∃ k q : Nat, 1 ≤ k ∧ i = .int .i64 k ∧ Hid (∀ j, 1 ≤ j → j < k → j < n → K (j - 1) ≤ K j) ∧ wr = w.drewN q) (fun i _ => n - (intOf i).toNat)
  case atStart => exact ⟨1, 0, by omega, rfl, (fun j h1 h2 => by omega), rfl⟩
  case round =>
    obtain ⟨k, q, hk, rfl, HK, rfl⟩ := hrel
    by_cases hlt : k < n
    · obtain ⟨b, off, e, hc1, -⟩ := hp k hlt
      obtain ⟨b', off', e', hc1', -⟩ := hp (k - 1) (by omega)
      subst e
      obtain ⟨rfl, rfl⟩ : b = b' ∧ off = off' := by simpa using e'
      clear e'
      have hxa := hx.out k hlt
      have hxb := hx.out (k - 1) (by omega)
      have HVa := hv.out k hlt
      have HVb := hv.out (k - 1) (by omega)
      generalize f k = x at hc1 hxa HVa
      generalize f (k - 1) = y at hc1' hxb HVb
      have HVa := Hid.in HVa
      have HVb := Hid.in HVb
      rename_i h1 h2
      clear h1 h2
      have hw1 : IntKind.i64.wrap ((k : Int) - 1) = ((k - 1 : Nat) : Int) := by rw [IntKind.wrap_i64]; omega
      have hb1 : (k : Int) < (n : Int) := by omega
      have hb2 : ((k - 1 : Nat) : Int) < (n : Int) := by omega
      have hca : ∀ m, Calls Try.prog 29 #[.slice ao na ac, .int .i64 x] (w.drewN m) fun e w' => e = .returned (.int .i64 (K k)) ∧ w' = w.drewN m := fun m => by
        have := of_any ao na ac z x hxa hna (w.drewN m) (hI.below (below_drewN (Below.refl _ _) _)); rw [HVa.out] at this; exact this
      have hcb : ∀ m, Calls Try.prog 29 #[.slice ao na ac, .int .i64 y] (w.drewN m) fun e w' => e = .returned (.int .i64 (K (k - 1))) ∧ w' = w.drewN m := fun m => by
        have := of_any ao na ac z y hxb hna (w.drewN m) (hI.below (below_drewN (Below.refl _ _) _)); rw [HVb.out] at this; exact this
      have HA := Hid.in hca
      have HB := Hid.in hcb
      clear hca hcb hxa hxb
      go_wp2
      go_quiet (first | (go_at_call_of 29 (x); exact (HA.out _).mono (fun _ _ ⟨he, hm⟩ => ⟨he, _, hm⟩)) | (go_at_call_of 29 (y); exact (HB.out _).mono (fun _ _ ⟨he, hm⟩ => ⟨he, _, hm⟩)))
      go_wp2
      · go_ret
        exact ⟨_, _, rfl, (fun h => by cases h), by first | rfl | exact World.drewN_drewN _ _ _⟩
      · have hle : K (k - 1) ≤ K k := by assumption
        go_roundw
        case rel => exact ⟨k + 1, _, by omega, by go_num, (fun j h1 h2 h3 => by
          by_cases e : j = k
          · subst e; exact hle
          · exact HK.out j h1 (by omega) h3), by first | rfl | exact World.drewN_drewN _ _ _⟩
        case measure => simp [intOf]; omega
    · go_wp2
      go_ret
      exact ⟨_, _, rfl, fun _ j h1 h2 => HK.out j h1 (by omega) h2, rfl⟩

theorem Row.ne_box {w : World} {g g' n : Nat} {f : Nat → Int} (h : Row w g n f) (hb : Box w g') : g ≠ g' := by
  rintro rfl
  obtain ⟨x, y, hb⟩ := hb
  unfold Row at h
  rw [h] at hb
  simp at hb

set_option maxHeartbeats 2000000 in
/-- 'lists.groupMovesBy' (function 27), where every move leaves one of the S states. -/
theorem group_any (mo ao : Option Addr) (n mc na ac S : Nat) (f g z K : Nat → Int) (w : World)
    (hn : n ≤ 65536) (hna : na ≤ 1048576) (hS : S ≤ 65536)
    (hp : PairsAt w mo n f g) (hI : IntsAt w ao na z) (hx : Hid (∀ j, j < n → ao.isNone = false → 0 ≤ f j ∧ f j < (na : Int)))
    (hv : Hid (∀ j, j < n → atOf ao.isNone z (f j) = K j)) (hK : Hid (∀ j, j < n → InR K S j)) :
    Calls Try.prog 27 #[.slice mo n mc, .slice ao na ac, .int .i64 (S : Int)] w fun e w' => ∃ g1 oo m o,
      e = .returned (.agg #[.slice oo m m, .slice (some ⟨g1, 0, none⟩) (S + 1) (S + 1)]) ∧ Row w' g1 (S + 1) (fun s => cLt K s n) ∧
      (oo.isNone = true → m = 0) ∧ (oo.isNone = false → m = n) ∧ IntsAt w' oo m o ∧ (∀ j, j < n → atOf oo.isNone o (pos K n j : Nat) = j) ∧ Below w.heap.size w w' := by
  go_enter Try.func27, Try.ntmps27
  go_wp2_with fail
  have hB0 : Below w.heap.size w (w.alloc (.cells #[.slice none 0 0, .slice none 0 0] 41)) := (Below.refl _ _).alloc (Nat.le_refl _) _
  refine (byStates_any mo ao n mc na ac f g z K _ hn hna (hp.below hB0) (hI.below hB0) hx hv).mono ?_
  rintro e w1 ⟨b, q, rfl, hb, rfl⟩
  cases b with
  | false =>
    clear hb
    go_wp2_with fail
    have hB1 : Below w.heap.size w ((w.alloc (.cells #[.slice none 0 0, .slice none 0 0] 41)).drewN q) := below_drewN hB0 _
    refine (deal_any mo ao n mc na ac S f g z K 0 S _ hn hna (by omega) (by omega) hS (by omega) (hp.below hB1) (hI.below hB1) hx.out (fun j hj => by rw [hv.out j hj]; omega) (fun j hj => by have := hK.out j hj; unfold InR at this; omega)).mono ?_
    rintro e w2 ⟨g1, g2, o, rfl, hr1, hr2, hd, hb⟩
    have hbx : w2.heap[w.heap.size]? = some (.cells #[.slice none 0 0, .slice none 0 0] 41 (0, 0)) := (hb.block w.heap.size (by simp)).trans (heap_alloc_new w _)
    have hc0 : w2.cell? ⟨w.heap.size, 0, none⟩ = some (.slice none 0 0) := by rw [cell_of_row w2 _ _ _ _ _ hbx]; rfl
    have hc1 : w2.cell? ⟨w.heap.size, 1, none⟩ = some (.slice none 0 0) := by rw [cell_of_row w2 _ _ _ _ _ hbx]; rfl
    have hf0 := frozen_of_row w2 _ 0 _ _ hbx
    have hf1 := frozen_of_row w2 _ 1 _ _ hbx
    have HM := Hid.in (cLt_all K S n hK.out)
    have n1 : g1 ≠ w.heap.size := hr1.ne_box ⟨_, _, hbx⟩
    have n2 : g2 ≠ w.heap.size := hr2.ne_box ⟨_, _, hbx⟩
    have HB : Hid (Below w.heap.size w w2) := hB1.trans (hb.mono (by simp))
    have e0 := fun X => World.cell?_setCell_same (v := X) w2 _ hc0
    have e1 := fun X => (World.cell?_setCell_other (a := (⟨w.heap.size, 0, none⟩ : Addr)) (b := ⟨w.heap.size, 1, none⟩) (v := X) w2 (by simp)).trans hc1
    have e2 := fun X Y => World.cell?_setCell_same (v := Y) _ _ (e1 X)
    clear hp hI hx hv hbx hb e0 e1 e2
    go_wp2
    have e0 := fun X => World.cell?_setCell_same (v := X) w2 _ hc0
    have e1 := fun X => (World.cell?_setCell_other (a := (⟨w.heap.size, 0, none⟩ : Addr)) (b := ⟨w.heap.size, 1, none⟩) (v := X) w2 (by simp)).trans hc1
    have e2 := fun X Y => World.cell?_setCell_same (v := Y) _ _ (e1 X)
    refine bodyPost_ret (v := .agg #[.slice (some ⟨g2, 0, none⟩) (cLt K S n) (cLt K S n), .slice (some ⟨g1, 0, none⟩) (S + 1) (S + 1)]) (by simp [results, Try.results27, go_sem, e0, e2]) rfl ⟨g1, _, _, o, rfl, ?_, ?_, ?_, ?_, ?_, ?_⟩
    · exact hr1.same ((heap_set_other _ (by simpa using n1)).trans (heap_set_other _ (by simpa using n1)))
    · intro h; cases h
    · intro _; exact HM.out
    · exact (hr2.same ((heap_set_other _ (by simpa using n2)).trans (heap_set_other _ (by simpa using n2)))).at
    · intro j hj
      have := hd j (Nat.zero_le _) hj (hK.out j hj)
      simpa [atOf] using this
    · exact (HB.out.setCell (by simp) _).setCell (by simp) _
  | true =>
    have HS := Hid.in (hb rfl)
    clear hb
    have hmk := make_ints .i64 (S + 1) ((S : Int) + 1) (by omega) (by omega)
    go_wp2
    clear hmk
    go_loopw [24] (fun i wr => ∃ k : Nat, k ≤ n ∧ i = .int .i64 k ∧ Row wr (w.heap.size + 1) (S + 1) (sg1 K k) ∧ Box wr w.heap.size ∧ Below w.heap.size w wr) (fun i _ => n - (intOf i).toNat)
    case atStart =>
      refine ⟨0, Nat.zero_le _, rfl, ?_, ?_, ?_⟩
      · have := Row.new ((w.alloc (.cells #[.slice none 0 0, .slice none 0 0] 41)).drewN q) (S + 1) (fun _ => 0)
        rw [World.heap_drewN, World.size_alloc] at this
        exact this.congr (fun s hs => by unfold sg1; split <;> rfl)
      · exact ⟨_, _, (heap_alloc_lt _ _ (by simp)).trans (heap_alloc_new w _)⟩
      · exact (below_drewN hB0 _).alloc (by simp) _
    case round =>
      clear hB0
      obtain ⟨k, hk, rfl, hrow, hbox, hb⟩ := hrel
      by_cases hlt : k < n
      · obtain ⟨b, off, e, hc1, hc2⟩ := (hp.below hb) k hlt
        subst e
        have hx' := hx.out k hlt
        have HV := Hid.in (hv.out k hlt)
        have hwl := hrow.lt
        obtain ⟨hr0, hr1⟩ := hK.out k hlt
        obtain ⟨s, hs⟩ := Int.eq_ofNat_of_zero_le hr0
        have HS' : Hid (K k = (s : Int)) := hs
        rw [hs] at hr1
        clear hr0 hs
        obtain ⟨c, HC, hck, hcs⟩ : ∃ c : Nat, Hid (cEq K s k = c) ∧ c ≤ k ∧ wr.cell? ⟨w.heap.size + 1, s + 1, none⟩ = some (.int .i64 (c : Int)) := by
          have := hrow.cell (i := s + 1) (by omega)
          rw [sg1, if_neg (by omega), Nat.add_sub_cancel] at this
          exact ⟨_, rfl, cEq_le _ _ _, this⟩
        have hfs := hrow.free (s + 1)
        go_wp2_with fail
        refine (of_any _ _ _ z _ hx' hna _ ?_).mono ?_
        · exact hI.below (hb.alloc hb.size _)
        rintro e w' ⟨rfl, rfl⟩
        rw [HV.out, HS'.out]
        go_wp2
        go_roundw
        case rel =>
          refine ⟨k + 1, by omega, by go_num, ?_, ?_, ?_⟩
          · have h1 := hrow.set (s + 1) ((c : Int) + 1)
            rw [← HC.out] at h1
            rw [← HC.out]
            exact (h1.congr (fun j hj => sg1_hit HS'.out j)).same (heap_alloc_lt _ _ (by simpa using hwl))
          · exact hbox.same ((heap_alloc_lt _ _ (by simpa using hbox.lt)).trans (heap_set_other _ (by simp)))
          · exact (hb.setCell (by simp) _).alloc (by simpa using hb.size) _
        case measure => simp [intOf]; omega
      · have hkn : k = n := by omega
        subst hkn
        go_wp2
        go_loopw [10] (fun i w2 => ∃ t : Nat, 1 ≤ t ∧ t ≤ S + 1 ∧ i = .int .i64 t ∧ Row w2 (w.heap.size + 1) (S + 1) (sg2 K k t) ∧ Box w2 w.heap.size ∧ Below w.heap.size w w2) (fun i _ => S + 1 - (intOf i).toNat)
        case atStart => exact ⟨1, by omega, by omega, rfl, hrow.congr (fun s hs => sg2_start s), hbox, hb⟩
        case round =>
          clear hrow hbox hb
          obtain ⟨t, ht1, ht2, rfl, hrow, hbox, hb⟩ := hrel
          by_cases hlt2 : t ≤ S
          · have hw1 : IntKind.i64.wrap ((t : Int) - 1) = ((t - 1 : Nat) : Int) := by rw [IntKind.wrap_i64]; omega
            obtain ⟨c0, HC0, hc0, hcs0⟩ : ∃ c : Nat, Hid (sg2 K k t t = (c : Int)) ∧ c ≤ k ∧ wr.cell? ⟨w.heap.size + 1, t, none⟩ = some (.int .i64 (c : Int)) := by
              obtain ⟨c, e, h⟩ := sg2_nat K k t t
              exact ⟨c, e, h, by rw [← e]; exact hrow.cell (by omega)⟩
            obtain ⟨c1, HC1, hc1, hcs1⟩ : ∃ c : Nat, Hid (sg2 K k t (t - 1) = (c : Int)) ∧ c ≤ k ∧ wr.cell? ⟨w.heap.size + 1, t - 1, none⟩ = some (.int .i64 (c : Int)) := by
              obtain ⟨c, e, h⟩ := sg2_nat K k t (t - 1)
              exact ⟨c, e, h, by rw [← e]; exact hrow.cell (by omega)⟩
            have hfs := hrow.free t
            have hb1 : (t : Int) - 1 < (S : Int) + 1 := by omega
            have hb2 : (t : Int) < (S : Int) + 1 := by omega
            have hb3 : ((t - 1 : Nat) : Int) < (S : Int) + 1 := by omega
            go_wp2
            go_region
            all_goals go_wp2
            all_goals
              go_roundw
              case rel =>
                refine ⟨t + 1, by omega, by omega, by go_num, ?_, ?_, ?_⟩
                · have h1 := hrow.set t ((c0 : Int) + (c1 : Int))
                  rw [← HC0.out, ← HC1.out, sg2_val ht1] at h1
                  rw [← HC0.out, ← HC1.out, sg2_val ht1]
                  exact h1.congr (fun j hj => sg2_step j)
                · exact hbox.same (heap_set_other wr (by simp))
                · exact (hb.setCell (by simp) _).drew
              case measure => simp [intOf]; omega
          · obtain ⟨x, y, hxy⟩ := hbox
            have hc0 : wr.cell? ⟨w.heap.size, 0, none⟩ = some x := by rw [cell_of_row wr _ _ _ _ _ hxy]; rfl
            have hc1 : wr.cell? ⟨w.heap.size, 1, none⟩ = some y := by rw [cell_of_row wr _ _ _ _ _ hxy]; rfl
            have hf0 := frozen_of_row wr _ 0 _ _ hxy
            have hf1 := frozen_of_row wr _ 1 _ _ hxy
            clear hp hI hx hv
            go_wp2
            have e0 := fun X => World.cell?_setCell_same (v := X) wr _ hc0
            have e1 := fun X => (World.cell?_setCell_other (a := (⟨w.heap.size, 0, none⟩ : Addr)) (b := ⟨w.heap.size, 1, none⟩) (v := X) wr (by simp)).trans hc1
            have e2 := fun X Y => World.cell?_setCell_same (v := Y) _ _ (e1 X)
            refine bodyPost_ret (v := .agg #[.slice none 0 0, .slice (some ⟨w.heap.size + 1, 0, none⟩) (S + 1) (S + 1)]) (by simp [results, Try.results27, go_sem, e0, e2]) rfl ⟨_, none, 0, fun _ => 0, rfl, ?_, ?_, ?_, ?_, ?_, ?_⟩
            · exact (hrow.congr (fun s hs => sg2_end s (by omega))).same ((heap_set_other _ (by simp)).trans (heap_set_other _ (by simp)))
            · intro _; rfl
            · intro h; cases h
            · intro i hi; omega
            · intro j hj
              have := pos_srt K k j HS.out (fun j hj => (hK.out j hj).1) hj
              simp [atOf, this]
            · exact (hb.setCell (by simp) _).setCell (by simp) _

/-- 'lists.ZZGroupMovesBy': the order and the starts. -/
theorem zzGroup_any (mo ao : Option Addr) (n mc na ac S : Nat) (f g z K : Nat → Int) (w : World)
    (hn : n ≤ 65536) (hna : na ≤ 1048576) (hS : S ≤ 65536)
    (hp : PairsAt w mo n f g) (hI : IntsAt w ao na z) (hx : Hid (∀ j, j < n → ao.isNone = false → 0 ≤ f j ∧ f j < (na : Int)))
    (hv : Hid (∀ j, j < n → atOf ao.isNone z (f j) = K j)) (hK : Hid (∀ j, j < n → InR K S j)) :
    Calls Try.prog 20 #[.slice mo n mc, .slice ao na ac, .int .i64 (S : Int)] w fun e w' => ∃ g1 oo m o,
      e = .returned (.tuple #[.slice oo m m, .slice (some ⟨g1, 0, none⟩) (S + 1) (S + 1)]) ∧ Row w' g1 (S + 1) (fun s => cLt K s n) ∧
      (oo.isNone = true → m = 0) ∧ (oo.isNone = false → m = n) ∧ IntsAt w' oo m o ∧ (∀ j, j < n → atOf oo.isNone o (pos K n j : Nat) = j) ∧ Below w.heap.size w w' := by
  go_enter Try.func20, Try.ntmps20
  go_wp2_with fail
  refine (group_any mo ao n mc na ac S f g z K _ hn hna hS hp hI hx hv hK).mono ?_
  rintro e w1 ⟨g1, oo, m, o, rfl, hr1, hm0, hm1, hI1, hd, hb⟩
  have h1 := hr1.lt
  have HM0 := Hid.in hm0
  have HM1 := Hid.in hm1
  have HD := Hid.in hd
  clear hp hI hm0 hm1 hd
  go_wp2
  go_quiet (fail)
  go_wp2
  go_ret2
  refine ⟨g1, oo, m, o, rfl, ?_, HM0.out, HM1.out, ?_, HD.out, ?_⟩
  · exact hr1.same (heap_alloc_lt _ _ h1)
  · exact hI1.below (below_drewN ((Below.refl _ _).alloc (Nat.le_refl _) _) _)
  · exact below_drewN (hb.alloc hb.size _) _
end Go.Proofs.Qxb6003473a
