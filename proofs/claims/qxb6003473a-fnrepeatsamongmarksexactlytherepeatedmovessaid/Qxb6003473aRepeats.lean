/-
  'lists.repeatsAmong' (function 28) and 'lists.ZZRepeatsAmong' (function 23), walked once.
-/
import Derived.Test.Qxb6003473aRepMem
namespace Go.Proofs.Qxb6003473a
open Go.RowKit Go.PlainAid
set_option linter.unusedVariables false
theorem zero52 (w : World) : Sem.run Try.prog (zeroValue 52) w = .ok (.agg (pairs 256 (fun _ => 0) (fun _ => 0))) w := by kernel_rfl
theorem Hid.mkk {p : Prop} (h : p) : Hid p := h

set_option maxRecDepth 100000 in
set_option maxHeartbeats 8000000 in
theorem repeats_any (mo oo sa : Option Addr) (n mc m oc sn sc lo hi gp nr N nw : Nat) (f g o : Nat → Int) (mv : Nat → Nat) (rep0 : Nat → Bool) (F T : Nat → Int) (w : World)
    (hN : N ≤ 65536) (hnw : nw = (N + 63) / 64) (hlo : lo ≤ hi) (hhi : hi ≤ 65536) (hn : n ≤ 65536) (hnr : nr ≤ 65536)
    (hp : PairsAt w mo n f g) (hI : IntsAt w oo m o) (hr0 : RowB w gp nr rep0)
    (hm : Hid (∀ i, i < hi → (oo.isNone = false → i < m) ∧ atOf oo.isNone o (i : Int) = (mv i : Int) ∧ mv i < n ∧ mv i < nr))
    (hF : Hid (∀ i, i < hi → f (mv i) = F i ∧ g (mv i) = T i ∧ 0 ≤ F i ∧ 0 ≤ T i ∧ T i < (N : Int))) :
    Calls Try.prog 28 #[.slice mo n mc, .agg #[.slice oo m oc, .slice sa sn sc], .int .i64 (lo : Int), .int .i64 (hi : Int), .slice (some ⟨gp, 0, none⟩) nr nr, .int .i64 (N : Int)] w fun e w' =>
      e = .returned (.tuple #[]) ∧ ∃ rep, RowB w' gp nr rep ∧ (∀ x, x < nr → (rep x = true ↔ RepP rep0 mv F T lo hi x)) ∧
      w'.os = w.os ∧ w'.tape = w.tape ∧ w'.output = w.output ∧ w.heap.size ≤ w'.heap.size ∧ ∀ k, k < w.heap.size → k ≠ gp → w'.heap[k]? = w.heap[k]? := by
  have HNS := Hid.mkk (fun w => newSet_any N nw hN hnw w)
  have hnw1 : nw ≤ 1024 := by omega
  have hnw2 : N ≤ nw * 64 := by omega
  have hz := zero52
  have hgpl := hr0.lt
  clear hnw
  go_enter Try.func28, Try.ntmps28
  go_wp2_with fail
  refine (HNS.out _).mono ?_
  rintro e w' ⟨rfl, rfl⟩
  go_wp2
  clear hz
  go_loopw [13, 14, 16] (fun u13 u14 u16 wr => ∃ (a first : Nat) (fr : Int) (rep : Nat → Bool) (rf rg : Nat → Int), lo ≤ a ∧ a ≤ hi + 256 ∧ u16 = .int .i64 a ∧ u13 = .int .i64 fr ∧ u14 = .int .i64 first ∧
      Hid (St F lo (min a hi) fr first) ∧ RM w wr gp nr rep nw (InS T first (min a hi)) rf rg (.slice oo m oc) (.slice sa sn sc) ∧ Hid (∀ x, x < nr → (rep x = true ↔ RepP rep0 mv F T lo (min a hi) x)))
    (fun _ _ i _ => hi + 256 - (intOf i).toNat)
  case atStart =>
    refine ⟨lo, lo, -1, rep0, fun _ => 0, fun _ => 0, Nat.le_refl _, by omega, rfl, rfl, rfl, ?_, ?_, ?_⟩
    · rw [show min lo hi = lo by omega]; exact st_start F lo
    · rw [show min lo hi = lo by omega]
      refine ⟨rfl, rfl, rfl, by simp, fun k h1 h2 => ?_, hgpl, ?_, ?_, ?_, ?_⟩
      · exact (heap_alloc_lt _ _ (by simp; omega)).trans ((heap_alloc_lt _ _ (by simp; omega)).trans (heap_alloc_lt _ _ h1))
      · exact (heap_alloc_lt _ _ (by simp; omega)).trans ((heap_alloc_lt _ _ (by simp)).trans (heap_alloc_new w _))
      · have := SetAt.new (w.alloc (.cells #[.slice oo m oc, .slice sa sn sc] 41)) nw
        rw [World.size_alloc] at this
        exact (this.same (heap_alloc_lt _ _ (by simp))).congr (fun x _ => (inS_none (Nat.le_refl _) x).symm)
      · have := heap_alloc_new ((w.alloc (.cells #[.slice oo m oc, .slice sa sn sc] 41)).alloc (.cells (words nw (fun _ => 0)) 57)) (.cells (pairs 256 (fun _ => 0) (fun _ => 0)) 52)
        rw [World.size_alloc, World.size_alloc] at this
        exact this
      · exact hr0.same ((heap_alloc_lt _ _ (by simp; omega)).trans ((heap_alloc_lt _ _ (by simp; omega)).trans (heap_alloc_lt _ _ hgpl)))
    · rw [show min lo hi = lo by omega]
      intro x hx
      exact ⟨fun h => .inl h, fun h => by
        rcases h with h | ⟨j, a1, a2, _⟩
        · exact h
        · omega⟩
  case round =>
    obtain ⟨a, first, fr, rep, rf, rg, ha0, ha1, rfl, rfl, rfl, HSt, hM, HR⟩ := hrel
    by_cases hlt : a < hi
    · rw [show min a hi = a by omega] at HSt hM HR
      obtain ⟨e, hae, hee, hehi, HE, hmin⟩ : ∃ e : Nat, a < e ∧ e ≤ a + 256 ∧ e ≤ hi ∧ Hid (e = min (a + 256) hi) ∧ (if (hi : Int) < (a : Int) + 256 then (hi : Int) else (a : Int) + 256) = (e : Int) := by
        refine ⟨min (a + 256) hi, by omega, by omega, by omega, rfl, ?_⟩
        split <;> omega
      go_wp2
      clear hmin
      go_loopw [18] (fun u18 w2 => ∃ (i : Nat) (rf rg : Nat → Int), a ≤ i ∧ i ≤ e ∧ u18 = .int .i64 i ∧ RM w w2 gp nr rep nw (InS T first a) rf rg (.slice oo m oc) (.slice sa sn sc) ∧ Hid (∀ j, a ≤ j → j < i → rf (j - a) = F j ∧ rg (j - a) = T j)) (fun i _ => e - (intOf i).toNat)
      case atStart => exact ⟨a, rf, rg, Nat.le_refl _, by omega, rfl, hM, fun j h1 h2 => by omega⟩
      case round =>
        clear hM
        obtain ⟨i, rf, rg, hi0, hi1, rfl, hM, HRun⟩ := hrel
        by_cases hie : i < e
        · obtain ⟨hm1, HMV, hmn, hmr⟩ := hm.out i (by omega)
          obtain ⟨hFi, hTi, -, -, -⟩ := hF.out i (by omega)
          have HMV := Hid.mkk HMV
          obtain ⟨b, off, e', hc1, hc2⟩ := (hp.rm hr0 hM) (mv i) hmn
          subst e'
          rw [hFi] at hc1
          rw [hTi] at hc2
          have hI2 := hI.rm hr0 hM
          have hm1' : oo.isNone = false → 0 ≤ (i : Int) ∧ (i : Int) < (m : Int) := fun h => ⟨by omega, by have := hm1 h; omega⟩
          generalize mv i = j at HMV hmn hmr hc1 hc2
          obtain ⟨k, hk, hk256, HK⟩ : ∃ k : Nat, (i : Int) - (a : Int) = (k : Int) ∧ (k : Int) < 256 ∧ Hid (i - a = k) := ⟨i - a, by omega, by omega, rfl⟩
          have hb0 := hM.box0
          have hb1 := hM.box1
          have hf0 := hM.runFree (k * 2)
          have hf1 := hM.runFree (k * 2 + 1)
          obtain ⟨x0, hx0⟩ : ∃ x, wr.cell? ⟨w.heap.size + 1 + 1, k * 2, none⟩ = some x := ⟨_, hM.run0 (by omega)⟩
          obtain ⟨x1, hx1⟩ : ∃ x, wr.cell? ⟨w.heap.size + 1 + 1, k * 2 + 1, none⟩ = some x := ⟨_, hM.run1 (by omega)⟩
          have hsz := hM.size
          have hbl := block_lt_of_cell hc1
          simp only at hbl
          clear hFi hTi hm1
          go_wp2_with fail
          refine (move_any oo sa m oc sn sc o (i : Int) hm1' _ hI2).mono ?_
          rintro e' w' ⟨rfl, rfl⟩
          rw [HMV.out]
          go_wp2
          go_roundw
          case rel =>
            refine ⟨i + 1, _, _, by omega, by omega, by go_num, (hM.setRun k (F i) (T i)).alloc _, ?_⟩
            intro j h1 h2
            by_cases ej : j = i
            · subst ej
              rw [HK.out]; simp
            · have : ¬ j - a = k := by have := HK.out; omega
              simp only [this, if_false]
              exact HRun.out j h1 (by omega)
          case measure => simp [intOf]; omega
        · have HRun : Hid (∀ j, a ≤ j → j < e → rf (j - a) = F j ∧ rg (j - a) = T j) := fun j h1 h2 => HRun.out j h1 (by omega)
          go_wp2
          clear hi0 hi1 hie
          go_loopw [13, 14, 19] (fun u13 u14 u19 w3 => ∃ (i first : Nat) (fr : Int) (rep : Nat → Bool), a ≤ i ∧ i ≤ e ∧ u19 = .int .i64 i ∧ u13 = .int .i64 fr ∧ u14 = .int .i64 first ∧
              Hid (St F lo i fr first) ∧ RM w w3 gp nr rep nw (InS T first i) rf rg (.slice oo m oc) (.slice sa sn sc) ∧ Hid (∀ x, x < nr → (rep x = true ↔ RepP rep0 mv F T lo i x)))
            (fun _ _ i _ => e - (intOf i).toNat)
          case atStart => exact ⟨a, first, fr, rep, Nat.le_refl _, by omega, rfl, rfl, rfl, HSt, hM, HR⟩
          case round =>
            clear hM HSt HR
            obtain ⟨i, first, fr, rep, hi0, hi1, rfl, rfl, rfl, HSt, hM, HR⟩ := hrel
            by_cases hie : i < e
            · obtain ⟨hm1, HMV, hmn, hmr⟩ := hm.out i (by omega)
              obtain ⟨-, -, hF0, hT0, hT1⟩ := hF.out i (by omega)
              have HMV := Hid.mkk HMV
              obtain ⟨k, hk, hk256, HK⟩ : ∃ k : Nat, (i : Int) - (a : Int) = (k : Int) ∧ (k : Int) < 256 ∧ Hid (i - a = k) := ⟨i - a, by omega, by omega, rfl⟩
              have hr0' := hM.run0 (k := k) (by omega)
              have hr1' := hM.run1 (k := k) (by omega)
              have := HRun.out i hi0 hie
              rw [HK.out] at this
              rw [this.1] at hr0'
              rw [this.2] at hr1'
              clear this
              obtain ⟨x, HX⟩ := Int.eq_ofNat_of_zero_le hT0
              have HX := Hid.mkk HX
              have hxN : x < nw * 64 := by have := HX.out; omega
              rw [HX.out] at hr1'
              have hsz := hM.size
              have hfl : first ≤ i := HSt.out.2.1
              have hlf : lo ≤ first := HSt.out.1
              by_cases hfe : F i = fr
              · have hne : (fr != fr) = false := by simp
                have HSt' := Hid.mkk (st_same HSt.out hfe hF0)
                rw [hfe] at hr0'
                clear HSt hlf
                go_wp2_with fail
                have hM6 := hM.alloc (.cells #[.int .i64 fr, .int .i64 (x : Int)] 28)
                refine (has_any (w.heap.size + 1) nw x _ _ hxN hnw1 hM6.set).mono ?_
                rintro e' w6 ⟨bb, q, rfl, HBI, rfl⟩
                have HRP := Hid.mkk (st_rp' (T := T) HSt'.out (by omega) HX.out)
                cases bb with
                | true =>
                  have HIn : Hid (InS T first i x) := HBI.1 rfl
                  clear HBI
                  have hM7 := hM6.drewN q
                  have hm1' : oo.isNone = false → 0 ≤ (i : Int) ∧ (i : Int) < (m : Int) := fun h => ⟨by omega, by have := hm1 h; omega⟩
                  have hI7 := hI.rm hr0 hM7
                  have hb0 := hM.box0
                  have hb1 := hM.box1
                  have hrc := hM.rep.cell hmr
                  have hrf := hM.rep.free (mv i)
                  have hgl := hM.rep.lt
                  have hsz7 := hM.size
                  have hsz8 : w.heap.size < wr.heap.size := by omega
                  have hmr' : (mv i : Int) < (nr : Int) := by omega
                  have hrc2 := (hM7.alloc (.cells #[.slice oo m oc, .slice sa sn sc] 41)).rep.cell hmr
                  have hrf2 := (hM7.alloc (.cells #[.slice oo m oc, .slice sa sn sc] 41)).rep.free (mv i)
                  clear hm1 hr0' hr1' hk
                  go_wp2_with fail
                  refine (move_any oo sa m oc sn sc o (i : Int) hm1' _ hI7).mono ?_
                  rintro e' w7 ⟨rfl, rfl⟩
                  rw [HMV.out]
                  go_wp2
                  go_roundw
                  case rel =>
                    refine ⟨i + 1, first, fr, _, by omega, by omega, by go_num, rfl, by first | rfl | go_num, HSt', ((hM7.setRep (mv i)).alloc _).congr (fun y _ => ?_), fun y hy => ?_⟩
                    · rw [← inS_succ (by omega) y, HX.out]
                      constructor
                      · exact fun h => .inr h
                      · rintro (h | h)
                        · rw [show y = x by omega]; exact HIn.out
                        · exact h
                    · rw [← repP_hit (by omega) (HRP.out.2 HIn.out) y, ← HR.out y hy]
                      by_cases ey : y = mv i
                      · simp [ey]
                      · simp [ey]
                  case measure => simp [intOf]; omega
                | false =>
                  have HIn : Hid (¬ InS T first i x) := fun h => by have := HBI.2 h; cases this
                  clear HBI
                  have hM7 := hM6.drewN q
                  have hgl := hM.rep.lt
                  have hsz7 := hM.size
                  clear hm1 hr0' hr1' hk
                  go_wp2_with fail
                  refine (add_any (w.heap.size + 1) nw x _ _ hxN hnw1 hM7.set).mono ?_
                  rintro e' w7 ⟨rfl, hS7, hT7⟩
                  have hM8 := hM7.touch hT7 hS7
                  go_wp2
                  go_roundw
                  case rel =>
                    refine ⟨i + 1, first, fr, rep, by omega, by omega, by go_num, rfl, by first | rfl | go_num, HSt', hM8.congr (fun y _ => ?_), fun y hy => ?_⟩
                    · rw [← inS_succ (by omega) y, HX.out]
                      constructor
                      · rintro (h | h)
                        · exact .inl (by omega)
                        · exact .inr h
                      · rintro (h | h)
                        · exact .inl (by omega)
                        · exact .inr h
                    · rw [← repP_miss (fun h => HIn.out (HRP.out.1 h)) y]
                      exact HR.out y hy
                  case measure => simp [intOf]; omega
              · have hne : (F i != fr) = true := by simpa using hfe
                have HSt' := Hid.mkk (st_new HSt.out hfe)
                clear HSt hfe
                go_wp2
                go_loopw [21] (fun u21 w4 => ∃ j : Nat, first ≤ j ∧ j ≤ i ∧ u21 = .int .i64 j ∧ RM w w4 gp nr rep nw (fun y => InS T first i y ∧ ¬ InS T first j y) rf rg (.slice oo m oc) (.slice sa sn sc) ∧
                    wr.heap.size < w4.heap.size ∧ w4.cell? ⟨wr.heap.size, 0, none⟩ = some (.int .i64 (F i)) ∧ w4.cell? ⟨wr.heap.size, 1, none⟩ = some (.int .i64 (x : Int))) (fun j _ => i - (intOf j).toNat)
                case atStart =>
                  refine ⟨first, Nat.le_refl _, hfl, rfl, (hM.alloc _).congr (fun y _ => ?_), by simp, by simp, by simp⟩
                  rw [inS_none (Nat.le_refl _)]; simp
                case round =>
                  obtain ⟨j, hj0, hj1, rfl, hM4, hgm, hg0, hg1⟩ := hrel
                  by_cases hji : j < i
                  · obtain ⟨hm1j, HMVj, hmnj, hmrj⟩ := hm.out j (by omega)
                    obtain ⟨-, hTj, -, hT0j, hT1j⟩ := hF.out j (by omega)
                    have HMVj := Hid.mkk HMVj
                    obtain ⟨y, HY⟩ := Int.eq_ofNat_of_zero_le hT0j
                    have HY := Hid.mkk HY
                    have hyN : y < nw * 64 := by have := HY.out; omega
                    obtain ⟨b, off, e', hc1, hc2⟩ := (hp.rm hr0 hM4) (mv j) hmnj
                    subst e'
                    rw [hTj, HY.out] at hc2
                    have hI4 := hI.rm hr0 hM4
                    have hm1j' : oo.isNone = false → 0 ≤ (j : Int) ∧ (j : Int) < (m : Int) := fun h => ⟨by omega, by have := hm1j h; omega⟩
                    generalize hgen : mv j = l at HMVj hmnj hmrj hc1 hc2
                    clear hgen
                    have hb0 := hM4.box0
                    have hb1 := hM4.box1
                    have hsz4 := hM4.size
                    have hbl := block_lt_of_cell hc2
                    simp only at hbl
                    clear hc1 hTj hm1j hT0j hT1j
                    go_wp2_with fail
                    refine (move_any oo sa m oc sn sc o (j : Int) hm1j' _ hI4).mono ?_
                    rintro e' w' ⟨rfl, rfl⟩
                    rw [HMVj.out]
                    go_wp2_with fail
                    refine (remove_any (w.heap.size + 1) nw y _ _ hyN hnw1 (hM4.alloc _).set).mono ?_
                    rintro e' w5 ⟨rfl, hS5, hT5⟩
                    have hM5 := (hM4.alloc _).touch hT5 hS5
                    go_wp2
                    go_roundw
                    case rel =>
                      refine ⟨j + 1, by omega, by omega, by go_num, hM5.congr (fun z _ => ?_), ?_, ?_, ?_⟩
                      · rw [← inS_succ hj0 z, HY.out]
                        constructor
                        · rintro ⟨⟨a1, a2⟩, a3⟩
                          exact ⟨a1, fun h => h.elim (fun h => a3 (by omega)) a2⟩
                        · rintro ⟨a1, a2⟩
                          exact ⟨⟨a1, fun h => a2 (.inr h)⟩, fun h => a2 (.inl (by omega))⟩
                      · rw [hT5.size]; simp; omega
                      · rw [World.cell?_of_block (a := ⟨_, 0, none⟩) (hT5.block _ (show _ ≠ w.heap.size + 1 from by dsimp only; omega)), World.cell?_alloc_lt _ _ _ (by simpa using hgm)]; exact hg0
                      · rw [World.cell?_of_block (a := ⟨_, 1, none⟩) (hT5.block _ (show _ ≠ w.heap.size + 1 from by dsimp only; omega)), World.cell?_alloc_lt _ _ _ (by simpa using hgm)]; exact hg1
                    case measure => simp [intOf]; omega
                  · have hM4 := hM4.congr (P' := InS T i i) (fun y _ => by
                      rw [inS_none (Nat.le_refl i), show j = i by omega]
                      exact ⟨fun h => h.2 h.1, fun h => h.elim⟩)
                    clear hM
                    go_wp2_with fail
                    refine (has_any (w.heap.size + 1) nw x _ _ hxN hnw1 hM4.set).mono ?_
                    rintro e' w6 ⟨bb, q, rfl, HBI, rfl⟩
                    have HRP := Hid.mkk (st_rp' (T := T) HSt'.out (by omega) HX.out)
                    cases bb with
                    | true =>
                      have HIn : Hid (InS T i i x) := HBI.1 rfl
                      clear HBI
                      have hM7 := hM4.drewN q
                      have hm1' : oo.isNone = false → 0 ≤ (i : Int) ∧ (i : Int) < (m : Int) := fun h => ⟨by omega, by have := hm1 h; omega⟩
                      have hI7 := hI.rm hr0 hM7
                      have hb0 := hM4.box0
                      have hb1 := hM4.box1
                      have hrc := hM4.rep.cell hmr
                      have hrf := hM4.rep.free (mv i)
                      have hgl := hM4.rep.lt
                      have hsz7 := hM4.size
                      have hsz8 : w.heap.size < wr.heap.size := by omega
                      have hmr' : (mv i : Int) < (nr : Int) := by omega
                      have hrc2 := (hM7.alloc (.cells #[.slice oo m oc, .slice sa sn sc] 41)).rep.cell hmr
                      have hrf2 := (hM7.alloc (.cells #[.slice oo m oc, .slice sa sn sc] 41)).rep.free (mv i)
                      clear hm1 hr0' hr1' hk hne
                      go_wp2_with fail
                      refine (move_any oo sa m oc sn sc o (i : Int) hm1' _ hI7).mono ?_
                      rintro e' w7 ⟨rfl, rfl⟩
                      rw [HMV.out]
                      go_wp2
                      go_roundw
                      case rel =>
                        refine ⟨i + 1, i, (F i), _, by omega, by omega, by go_num, rfl, by first | rfl | go_num, HSt', ((hM7.alloc _).setRep (mv i)).congr (fun y _ => ?_), fun y hy => ?_⟩
                        · rw [← inS_succ (by omega) y, HX.out]
                          constructor
                          · exact fun h => .inr h
                          · rintro (h | h)
                            · rw [show y = x by omega]; exact HIn.out
                            · exact h
                        · rw [← repP_hit (by omega) (HRP.out.2 HIn.out) y, ← HR.out y hy]
                          by_cases ey : y = mv i
                          · simp [ey]
                          · simp [ey]
                      case measure => simp [intOf]; omega
                    | false =>
                      have HIn : Hid (¬ InS T i i x) := fun h => by have := HBI.2 h; cases this
                      clear HBI
                      have hM7 := hM4.drewN q
                      have hgl := hM4.rep.lt
                      have hsz7 := hM4.size
                      clear hm1 hr0' hr1' hk hne
                      go_wp2_with fail
                      refine (add_any (w.heap.size + 1) nw x _ _ hxN hnw1 hM7.set).mono ?_
                      rintro e' w7 ⟨rfl, hS7, hT7⟩
                      have hM8 := hM7.touch hT7 hS7
                      go_wp2
                      go_roundw
                      case rel =>
                        refine ⟨i + 1, i, (F i), rep, by omega, by omega, by go_num, rfl, by first | rfl | go_num, HSt', hM8.congr (fun y _ => ?_), fun y hy => ?_⟩
                        · rw [← inS_succ (by omega) y, HX.out]
                          constructor
                          · rintro (h | h)
                            · exact .inl (by omega)
                            · exact .inr h
                          · rintro (h | h)
                            · exact .inl (by omega)
                            · exact .inr h
                        · rw [← repP_miss (fun h => HIn.out (HRP.out.1 h)) y]
                          exact HR.out y hy
                      case measure => simp [intOf]; omega
            · have hie' : i = e := by omega
              go_wp2
              go_roundw
              case rel => exact ⟨a + 256, first, fr, rep, rf, rg, by omega, by omega, by go_num, rfl, rfl, by rw [← HE.out, ← hie']; exact HSt, by rw [← HE.out, ← hie']; exact hM, by rw [← HE.out, ← hie']; exact HR⟩
              case measure => simp [intOf]; omega
    · go_wp2
      go_end0
      rw [show min a hi = hi by omega] at hM HR
      exact ⟨rfl, rep, hM.rep, HR.out, hM.os, hM.tape, hM.output, by have := hM.size; omega, hM.old⟩

/-- 'lists.ZZRepeatsAmong': hands on. -/
theorem zzRepeats_any (mo oo sa : Option Addr) (n mc m oc sn sc lo hi gp nr N : Nat) (f g o : Nat → Int) (mv : Nat → Nat) (rep0 : Nat → Bool) (F T : Nat → Int) (w : World)
    (hN : N ≤ 65536) (hlo : lo ≤ hi) (hhi : hi ≤ 65536) (hn : n ≤ 65536) (hnr : nr ≤ 65536)
    (hp : PairsAt w mo n f g) (hI : IntsAt w oo m o) (hr0 : RowB w gp nr rep0)
    (hm : Hid (∀ i, i < hi → (oo.isNone = false → i < m) ∧ atOf oo.isNone o (i : Int) = (mv i : Int) ∧ mv i < n ∧ mv i < nr))
    (hF : Hid (∀ i, i < hi → f (mv i) = F i ∧ g (mv i) = T i ∧ 0 ≤ F i ∧ 0 ≤ T i ∧ T i < (N : Int))) :
    Calls Try.prog 23 #[.slice mo n mc, .slice oo m oc, .slice sa sn sc, .int .i64 (lo : Int), .int .i64 (hi : Int), .slice (some ⟨gp, 0, none⟩) nr nr, .int .i64 (N : Int)] w fun e w' =>
      e = .returned (.tuple #[]) ∧ ∃ rep, RowB w' gp nr rep ∧ (∀ x, x < nr → (rep x = true ↔ RepP rep0 mv F T lo hi x)) ∧
      w'.os = w.os ∧ w'.tape = w.tape ∧ w'.output = w.output ∧ w.heap.size ≤ w'.heap.size ∧ ∀ k, k < w.heap.size → k ≠ gp → w'.heap[k]? = w.heap[k]? := by
  go_enter Try.func23, Try.ntmps23
  go_wp2_with fail
  refine (repeats_any mo oo sa n mc m oc sn sc lo hi gp nr N ((N + 63) / 64) f g o mv rep0 F T w hN rfl hlo hhi hn hnr hp hI hr0 hm hF).mono ?_
  rintro e w' ⟨rfl, hrest⟩
  have HR : Hid (_ ∧ _) := ⟨trivial, hrest⟩
  clear hrest hp hI hr0
  go_wp2
  go_end0
  exact ⟨rfl, HR.out.2⟩
end Go.Proofs.Qxb6003473a
