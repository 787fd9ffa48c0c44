/-
  The walk of 'FnByCRDFirstEntryDecides' (function 5).
-/
import Derived.Test.Qxb6602758aBy
import Derived.Test.Qxb6602758aBytes
import Derived.Test.Qxb6602758aLaw6
namespace Go.Proofs.Qxb6602758a
open Go.RowKit Go.PlainAid
set_option linter.unusedVariables false

/-- zzHasSuffix (function 12), where the answer is yes. -/
theorem hasSuffix_yes (s t : ByteArray) (w : World) (hs : s.size ≤ 1099511627776) (h : t.size ≤ s.size) (he : ((s.extract (s.size - t.size) s.size).toList == t.toList) = true) :
    Calls Try.prog 12 #[.string s, .string t] w fun e w' => e = .returned (.bool true) ∧ w = w' := by
  have hd : (t.size : Int) ≤ (s.size : Int) := by omega
  go_enter Try.func12, Try.ntmps12
  go_wp2
  go_ret
  exact ⟨rfl, rfl⟩

def sufB : ByteArray := ⟨#[59, 32, 105, 116, 115, 32, 67, 82, 68, 32, 115, 101, 114, 118, 101, 115, 32, 110, 111, 32, 118, 101, 114, 115, 105, 111, 110, 32, 116, 104, 97, 116, 32, 105, 115, 32, 110, 111, 116, 32, 100, 101, 112, 114, 101, 99, 97, 116, 101, 100]⟩
theorem suf_app : sepB ++ noneB = sufB := by
  apply ByteArray.ext
  apply Array.toList_inj.1
  rw [app_data]
  rfl
theorem tail_size (b : ByteArray) : ((b ++ sepB) ++ noneB).size = b.size + 50 := by
  rw [ByteArray.size_append, ByteArray.size_append]
  show b.size + 2 + 48 = _
  omega
theorem tail_cut (b : ByteArray) : ((b ++ sepB) ++ noneB).extract 0 (((b ++ sepB) ++ noneB).size - 48) = b ++ sepB :=
  ByteArray.extract_append_eq_left (by
    rw [tail_size, ByteArray.size_append]
    show _ = b.size + 2
    omega)
theorem tail_end (b : ByteArray) : (((b ++ sepB) ++ noneB).extract (((b ++ sepB) ++ noneB).size - sufB.size) ((b ++ sepB) ++ noneB).size) = sufB := by
  rw [tail_size, ByteArray.append_assoc, suf_app]
  exact ByteArray.extract_append_eq_right (by show b.size + 50 - 50 = _; omega) rfl
theorem tail_yes (b M1 : ByteArray) (h : M1 = (b ++ sepB) ++ noneB) : ((M1.extract (M1.size - sufB.size) M1.size).toList == sufB.toList) = true := by
  subst h
  exact (beq_bytes _ _).2 (tail_end b)
theorem tail_eq (b M1 M R : ByteArray) (h : M1 = (b ++ sepB) ++ noneB) (h2 : M = (b ++ sepB) ++ R) : (M.toList == (M1.extract 0 (M1.size - 48) ++ R).toList) = true := by
  subst h h2
  rw [tail_cut]
  exact (beq_bytes _ _).2 rfl
theorem si_none {nm : Nat → ByteArray} {sv dp : Nat → Bool} {n : Nat} (h : srv nm sv dp n = []) : siB nm sv dp n = noneB := by
  unfold siB
  rw [h]
  rfl
theorem no_of (s d : Bool) (h : (s && !d) = false) : s = false ∨ d = true := by
  revert h; cases s <;> cases d <;> simp
theorem sz71 {b : ByteArray} (h : b.size = 71) : 50 ≤ b.size ∧ b.size ≤ 100 ∧ (48 : Int) ≤ (b.size : Int) := by omega
theorem sumB_single (a : ByteArray) : sumB (fun _ => a) 1 = a.size := by simp [sumB]

def one5 (w : World) (a e : ByteArray) (b c d : Bool) : World :=
  ((((w.alloc (.cells #[.string a] 9)).alloc (.cells #[.bool b] 4)).alloc (.cells #[.bool c] 4)).alloc (.cells #[.bool d] 4)).alloc (.cells #[.string e] 9)
theorem below_alloc (w : World) (o : Obj) : Below w.heap.size w (w.alloc o) := (Below.refl _ _).alloc (Nat.le_refl _) _
theorem cell_alloc {w : World} {a : Addr} {v : Value} (o : Obj) (h : w.cell? a = some v) : (w.alloc o).cell? a = some v := ((below_alloc w o).cell (block_lt_of_cell h)).trans h
theorem one_s (w : World) (a : ByteArray) {g : Nat} (hg : w.heap.size = g) : StrsAt (w.alloc (.cells #[.string a] 9)) (some ⟨g, 0, none⟩) 1 (fun _ => a) := by
  subst hg
  exact (RowS.new w 1 (fun _ => a)).at
theorem one_b (w : World) (a : Bool) {g : Nat} (hg : w.heap.size = g) : BoolsAt (w.alloc (.cells #[.bool a] 4)) (some ⟨g, 0, none⟩) 1 (fun _ => a) := by
  subst hg
  exact (RowB.new w 1 (fun _ => a)).at
theorem one5_at (w : World) (a e : ByteArray) (b c d : Bool) :
    StrsAt (one5 w a e b c d) (some ⟨w.heap.size, 0, none⟩) 1 (fun _ => a) ∧ BoolsAt (one5 w a e b c d) (some ⟨w.heap.size + 1, 0, none⟩) 1 (fun _ => b) ∧ BoolsAt (one5 w a e b c d) (some ⟨w.heap.size + 1 + 1, 0, none⟩) 1 (fun _ => c) ∧
    BoolsAt (one5 w a e b c d) (some ⟨w.heap.size + 1 + 1 + 1, 0, none⟩) 1 (fun _ => d) ∧ StrsAt (one5 w a e b c d) (some ⟨w.heap.size + 1 + 1 + 1 + 1, 0, none⟩) 1 (fun _ => e) ∧ Below w.heap.size w (one5 w a e b c d) := by
  unfold one5
  refine ⟨((((one_s w a rfl).below (below_alloc _ _)).below (below_alloc _ _)).below (below_alloc _ _)).below (below_alloc _ _), (((one_b _ b (by simp)).below (below_alloc _ _)).below (below_alloc _ _)).below (below_alloc _ _),
    ((one_b _ c (by simp)).below (below_alloc _ _)).below (below_alloc _ _), (one_b _ d (by simp)).below (below_alloc _ _), one_s _ e (by simp), ?_⟩
  have s1 := below_alloc w (.cells #[.string a] 9)
  have s2 := s1.alloc s1.size (.cells #[.bool b] 4)
  have s3 := s2.alloc s2.size (.cells #[.bool c] 4)
  have s4 := s3.alloc s3.size (.cells #[.bool d] 4)
  exact s4.alloc s4.size _
theorem strs_nil (w : World) (f : Nat → ByteArray) : StrsAt w none 0 f := fun i hi => absurd hi (Nat.not_lt_zero _)
theorem bools_nil (w : World) (f : Nat → Bool) : BoolsAt w none 0 f := fun i hi => absurd hi (Nat.not_lt_zero _)

set_option maxRecDepth 100000 in
set_option maxHeartbeats 8000000 in
theorem law5_walk (gr ki v : ByteArray) (no so to dpo wo : Option Addr) (n nc sl sc tl tc dl dc wl wc : Nat) (nm wn : Nat → ByteArray) (sv st dp : Nat → Bool) (w : World)
    (hg : gr.size ≤ maxLen) (hk : ki.size ≤ maxLen) (hv : v.size ≤ maxLen) (hn : n ≤ maxLen) (hsl : sl ≤ maxLen) (htl : tl ≤ maxLen) (hdl : dl ≤ maxLen) (hwl : wl ≤ maxLen)
    (hnm : Hid (∀ i, i < n → (nm i).size ≤ maxLen)) (hwn : Hid (∀ i, i < wl → (wn i).size ≤ maxLen))
    (z1 : Hid (no = none → n = 0)) (z2 : Hid (so = none → sl = 0)) (z3 : Hid (to = none → tl = 0)) (z4 : Hid (dpo = none → dl = 0)) (z5 : Hid (wo = none → wl = 0))
    (h1 : StrsAt w no n nm) (h2 : BoolsAt w so sl sv) (h3 : BoolsAt w to tl st) (h4 : BoolsAt w dpo dl dp) (h5 : StrsAt w wo wl wn) :
    Calls Try.prog 5 #[.string gr, .string ki, .slice no n nc, .slice so sl sc, .slice to tl tc, .slice dpo dl dc, .slice wo wl wc, .string v] w fun e w' => e = .returned (.bool true) ∧ Below w.heap.size w w' := by
  go_enter Try.func5, Try.ntmps5
  go_wp2_with fail
  refine (bytes14 gr ki v no so to dpo wo n nc sl sc tl tc dl dc wl wc nm wn _ hg hk hv hn hsl htl hdl hwl hnm hwn h1 h5).mono ?_
  rintro e w' ⟨⟨b, rfl⟩, rfl⟩
  cases b with
  | false =>
    go_wp2
    go_ret
    exact ⟨rfl, Below.refl _ _⟩
  | true =>
    go_wp2_with fail
    refine (over_any gr ki v no so to dpo wo n nc sl sc tl tc dl dc wl wc nm wn _ hg hk hv hn hsl htl hdl hwl hnm hwn h1 h5).mono ?_
    rintro e w' ⟨⟨b, rfl, hbb⟩, rfl⟩
    cases b with
    | true =>
      go_wp2
      go_ret
      exact ⟨rfl, Below.refl _ _⟩
    | false =>
      obtain ⟨b1, -, b3, b4⟩ := hbb rfl
      clear hbb hg hk hv hn hsl htl hdl hwl hnm hwn
      by_cases heq : sl = n ∧ tl = n ∧ dl = n ∧ wl = n
      · obtain ⟨rfl, rfl, rfl, rfl⟩ := heq
        have hw : Hid (∀ i, i < wl → (wn i).size ≤ 1048576) := fun i hi => Nat.le_trans (sumB_one wn hi) b4
        clear b4
        go_wp2_with fail
        refine (cloneStrs_any no wl nc nm (by omega) _ z1.out h1).mono ?_
        rintro e w1 ⟨no', rfl, hz1, h1, hb1⟩
        have Z1 : Hid (no' = none → wl = 0) := fun h => z1.out (by rw [h] at hz1; exact Option.isNone_iff_eq_none.1 hz1.symm)
        clear hz1
        go_wp2_with fail
        refine (cloneBools_any so wl sc sv (by omega) _ z2.out (h2.below hb1)).mono ?_
        rintro e w2 ⟨so', rfl, -, h2', hb2⟩
        have B2 := hb1.trans (hb2.mono hb1.size)
        have h1 := h1.below hb2
        go_wp2_with fail
        refine (cloneBools_any to wl tc st (by omega) _ z3.out (h3.below B2)).mono ?_
        rintro e w3 ⟨to', rfl, -, h3', hb3⟩
        have B3 := B2.trans (hb3.mono B2.size)
        have h1 := h1.below hb3
        have h2' := h2'.below hb3
        go_wp2_with fail
        refine (cloneBools_any dpo wl dc dp (by omega) _ z4.out (h4.below B3)).mono ?_
        rintro e w4 ⟨dpo', rfl, -, h4', hb4⟩
        have B4 := B3.trans (hb4.mono B3.size)
        have h1 := h1.below hb4
        have h2' := h2'.below hb4
        have h3' := h3'.below hb4
        go_wp2_with fail
        refine (cloneStrs_any wo wl wc wn (by omega) _ z5.out (h5.below B4)).mono ?_
        rintro e w5 ⟨wo', rfl, -, h5', hb5⟩
        have B5 := B4.trans (hb5.mono B4.size)
        have h1 := h1.below hb5
        have h2' := h2'.below hb5
        have h3' := h3'.below hb5
        have h4' := h4'.below hb5
        clear h2 h3 h4 h5 hb1 hb2 hb3 hb4 hb5 B2 B3 B4 z1 z2 z3 z4 z5
        go_wp2_with fail
        refine (zzBy_any gr ki v no' so' to' dpo' wo' wl wl wl wl wl wl nm wn sv st dp _ (by omega) b3 hw Z1 h1 h2' h3' h4' h5').mono ?_
        rintro e w6 ⟨S, M, rfl, hO, hb6⟩
        have B6 := B5.trans (hb6.mono B5.size)
        have HO := Hid.mkk hO
        have h1 := h1.below hb6
        have h2' := h2'.below hb6
        have h3' := h3'.below hb6
        have h4' := h4'.below hb6
        have h5' := h5'.below hb6
        clear hO hb6 B5
        go_wp2_with fail
        refine (zzServed_any gr ki no' so' to' dpo' wo' wl wl wl wl wl wl nm wn sv st dp _ (by omega) b3 Z1 h1 h2' h3' h4' h5').mono ?_
        rintro e w7 ⟨rfl, hb7⟩
        have B7 := B6.trans (hb7.mono B6.size)
        have h1 := h1.below hb7
        have h2' := h2'.below hb7
        have h3' := h3'.below hb7
        have h4' := h4'.below hb7
        have h5' := h5'.below hb7
        clear hb7 B6
        go_wp2
        go_loopw [21] (fun i wr => ∃ k : Nat, k ≤ wl ∧ i = .int .i64 k ∧ Hid (∀ j, j < k → nm j ≠ v) ∧ wr = w7) (fun i _ => wl - (intOf i).toNat)
        case atStart => exact ⟨0, Nat.zero_le _, rfl, fun j hj => by omega, rfl⟩
        case round =>
          obtain ⟨k, hkn, rfl, HK, rfl⟩ := hrel
          by_cases hlt : k < wl
          · obtain ⟨b, off, e, hc⟩ := h1 k hlt
            by_cases hv : nm k = v
            · have ht : ((nm k).toList == v.toList) = true := (beq_bytes _ _).2 hv
              obtain ⟨hS0, hM0⟩ : S = stOf (sv k) (dp k) ∧ M = msgOf (sv k) (dp k) (wn k) (siB nm sv dp wl) := HO.out.at hlt hv HK.out
              obtain ⟨b2, o2, e2, hc2⟩ := h2' k hlt
              obtain ⟨b3', o3, e3, hc3⟩ := h3' k hlt
              obtain ⟨b4, o4, e4, hc4⟩ := h4' k hlt
              obtain ⟨b5, o5, e5, hc5⟩ := h5' k hlt
              have l1 := block_lt_of_cell hc
              have l2 := block_lt_of_cell hc2
              have l3 := block_lt_of_cell hc3
              have l4 := block_lt_of_cell hc4
              have l5 := block_lt_of_cell hc5
              simp only at l1 l2 l3 l4 l5
              have hwk := hw.out k hlt
              have hnk := sumB_one nm hlt
              clear HO
              subst e e2 e3 e4 e5
              have x2 := cell_alloc (.cells #[.string (nm k)] 9) hc2
              have x3 := cell_alloc (.cells #[.bool (sv k)] 4) (cell_alloc (.cells #[.string (nm k)] 9) hc3)
              have x4 := cell_alloc (.cells #[.bool (st k)] 4) (cell_alloc (.cells #[.bool (sv k)] 4) (cell_alloc (.cells #[.string (nm k)] 9) hc4))
              have x5 := cell_alloc (.cells #[.bool (dp k)] 4) (cell_alloc (.cells #[.bool (st k)] 4) (cell_alloc (.cells #[.bool (sv k)] 4) (cell_alloc (.cells #[.string (nm k)] 9) hc5)))
              have x6 := cell_alloc (.cells #[.string (wn k)] 9) x5
              clear h1 h2' h3' h4' h5' Z1
              have HS0 := Hid.mkk hS0
              have HM0 := Hid.mkk hM0
              have HV := Hid.mkk hv
              clear hv hS0 hM0
              go_wp2_with fail
              obtain ⟨y1, y2, y3, y4, y5, hb8⟩ := one5_at wr (nm k) (wn k) (sv k) (st k) (dp k)
              unfold one5 at y1 y2 y3 y4 y5 hb8
              have q1 : sumB (fun _ : Nat => nm k) 1 ≤ 1048576 := by rw [sumB_single]; exact Nat.le_trans hnk b3
              have q2 : Hid (∀ i, i < 1 → ((fun _ : Nat => wn k) i).size ≤ 1048576) := fun _ _ => hwk
              have q3 : Hid (some (⟨wr.heap.size, 0, none⟩ : Addr) = none → (1 : Nat) = 0) := fun h => by cases h
              have q4 := zzBy_any gr ki v (some ⟨wr.heap.size, 0, none⟩) (some ⟨wr.heap.size + 1, 0, none⟩) (some ⟨wr.heap.size + 1 + 1, 0, none⟩) (some ⟨wr.heap.size + 1 + 1 + 1, 0, none⟩) (some ⟨wr.heap.size + 1 + 1 + 1 + 1, 0, none⟩) 1 1 1 1 1 1 (fun _ => nm k) (fun _ => wn k) (fun _ => sv k) (fun _ => st k) (fun _ => dp k) _ (by decide) q1 q2 q3 y1 y2 y3 y4 y5
              refine q4.mono ?_
              rintro e w9 ⟨S1, M1, rfl, hO1, hb9⟩
              have B8 := B7.trans (hb8.mono B7.size)
              have B9 := B8.trans (hb9.mono B8.size)
              obtain ⟨hS1, hM1⟩ : S1 = stOf (sv k) (dp k) ∧ M1 = msgOf (sv k) (dp k) (wn k) (siB (fun _ => nm k) (fun _ => sv k) (fun _ => dp k) 1) := hO1.at (k := 0) (by omega) HV.out (fun j hj => absurd hj (Nat.not_lt_zero _))
              have hR := siB_size nm sv dp wl
              have hSS : S1 = S := hS1.trans HS0.out.symm
              subst hSS
              have hM0 := HM0.out
              have hMn : (sv k && !dp k) = false → siB (fun _ => nm k) (fun _ => sv k) (fun _ => dp k) 1 = noneB := fun h => si_none (srv_one_no _ _ _ (no_of _ _ h))
              clear q1 q2 q3 q4 hb9 hO1 hb8 y1 y2 y3 y4 y5 x2 x3 x4 x5 x6 hc hc2 hc3 hc4 hc5 HS0 HM0 HV B8 B7 l1 l2 l3 l4 l5 HK hlt hkn ht
              generalize siB nm sv dp wl = R at *
              generalize sv k = sk at *
              generalize dp k = dk at *
              generalize wn k = wk at *
              cases hsd : (sk && !dk) with
              | true =>
                have hst : stOf sk dk = ⟨#[]⟩ := by
                  revert hsd; cases sk <;> cases dk <;> simp [stOf]
                have hS : S1.toList.isEmpty = true := by rw [hS1, hst, empty_list]; rfl
                have hM : M.toList.isEmpty = true := by rw [hM0]; unfold msgOf; rw [hsd]; show (⟨#[]⟩ : ByteArray).toList.isEmpty = true; rw [empty_list]; rfl
                have hM' : M1.toList.isEmpty = true := by rw [hM1]; unfold msgOf; rw [hsd]; show (⟨#[]⟩ : ByteArray).toList.isEmpty = true; rw [empty_list]; rfl
                clear hS1 hM0 hM1 hMn hst hsd
                go_wp2
                go_ret
                exact ⟨rfl, B9⟩
              | false =>
                have hS : S1.toList.isEmpty = false := by
                  rw [hS1]
                  revert hsd
                  cases sk
                  · intro _; show removedB.toList.isEmpty = false; rw [removed_list]; rfl
                  · cases dk
                    · intro h; exact absurd h (by decide)
                    · intro _; show deprB.toList.isEmpty = false; rw [depr_list]; rfl
                rw [hMn hsd] at hM1
                clear hMn hS1
                unfold msgOf at hM0 hM1
                rw [hsd] at hM0 hM1
                cases hwe : wk.toList.isEmpty with
                | false =>
                  rw [hwe] at hM0 hM1
                  have hMM : M1 = M := hM1.trans hM0.symm
                  subst hMM
                  clear hM0 hM1 hsd
                  go_wp2
                  go_ret
                  exact ⟨rfl, B9⟩
                | true =>
                  rw [hwe] at hM0 hM1
                  replace hM0 : M = (baseOf sk ++ sepB) ++ R := hM0
                  replace hM1 : M1 = (baseOf sk ++ sepB) ++ noneB := hM1
                  have hfin := tail_eq (baseOf sk) M1 M R hM1 hM0
                  have hsuf := tail_yes (baseOf sk) M1 hM1
                  have hz : M1.size = 71 := by rw [hM1, tail_size]; cases sk <;> rfl
                  obtain ⟨z1, z2, z3⟩ := sz71 hz
                  clear hM0 hM1 hsd hz
                  have HF := Hid.mkk hfin
                  clear hfin
                  go_wp2_with fail
                  refine (hasSuffix_yes M1 sufB _ (Nat.le_trans z2 (by decide)) z1 hsuf).mono ?_
                  rintro e w' ⟨rfl, rfl⟩
                  have hfin := HF.out
                  go_wp2
                  go_ret
                  exact ⟨rfl, B9⟩
            · have ht : ((nm k).toList == v.toList) = false := beq_bytes_ne _ _ hv
              have HV := Hid.mkk hv
              clear hv
              subst e
              go_wp2
              go_roundw
              case rel => exact ⟨k + 1, by omega, by go_num, (fun j hj => by
                by_cases e : j = k
                · subst e; exact HV.out
                · exact HK.out j (by omega)), by trivial⟩
              case measure => simp [intOf]; omega
          · have hke : k = wl := by omega
            subst hke
            obtain ⟨hS0, hM0⟩ : S = removedB ∧ M = (m1B ++ sepB) ++ siB nm sv dp k := HO.out.none HK.out
            have HS0 := Hid.mkk hS0
            have HM0 := Hid.mkk hM0
            clear hS0 hM0 HO
            go_wp2_with fail
            refine (zzBy_any gr ki v _ _ _ _ _ 0 0 0 0 0 0 nm wn sv st dp _ (by omega) (by show 0 ≤ _; omega) (fun _ h => absurd h (Nat.not_lt_zero _)) (fun _ => rfl) (strs_nil _ _) (bools_nil _ _) (bools_nil _ _) (bools_nil _ _) (strs_nil _ _)).mono ?_
            rintro e w9 ⟨S1, M1, rfl, hO1, hb9⟩
            have B9 := B7.trans (hb9.mono B7.size)
            obtain ⟨hS1, hM1⟩ : S1 = removedB ∧ M1 = (m1B ++ sepB) ++ siB nm sv dp 0 := hO1.none (fun j hj => absurd hj (Nat.not_lt_zero _))
            rw [si_none (n := 0) rfl] at hM1
            have hR := siB_size nm sv dp k
            have hSS : S1 = S := hS1.trans HS0.out.symm
            subst hSS
            have hM0 := HM0.out
            have hS : S1.toList.isEmpty = false := by rw [hS1, removed_list]; rfl
            have hfin := tail_eq m1B M1 M _ hM1 hM0
            have hsuf := tail_yes m1B M1 hM1
            have hz : M1.size = 71 := by rw [hM1, tail_size]; rfl
            obtain ⟨z1, z2, z3⟩ := sz71 hz
            have HF := Hid.mkk hfin
            clear hb9 hO1 hS1 hM0 hM1 HM0 HS0 hfin hz h1 h2' h3' h4' h5' Z1 HK B7
            generalize siB nm sv dp k = R at *
            go_wp2_with fail
            refine (hasSuffix_yes M1 sufB _ (Nat.le_trans z2 (by decide)) z1 hsuf).mono ?_
            rintro e w' ⟨rfl, rfl⟩
            have hfin := HF.out
            go_wp2
            go_ret
            exact ⟨rfl, B9⟩
      · go_wp2
        all_goals (go_ret; exact ⟨rfl, Below.refl _ _⟩)
end Go.Proofs.Qxb6602758a
