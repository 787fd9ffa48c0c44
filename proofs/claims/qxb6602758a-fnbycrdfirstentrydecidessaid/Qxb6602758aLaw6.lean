/-
  The walk of 'FnByCRDStatusByFirstEntry' (function 6).
-/
import Derived.Test.Qxb6602758aBy
import Derived.Test.Qxb6602758aBytes
namespace Go.Proofs.Qxb6602758a
open Go.RowKit Go.PlainAid
set_option linter.unusedVariables false

theorem app_data (a b : ByteArray) : (a ++ b).data.toList = a.data.toList ++ b.data.toList := by simp
theorem app_ne (a b c : ByteArray) (h : a.data.toList ≠ []) : ((a ++ b) ++ c).toList.isEmpty = false := by
  rw [ByteArray.toList_eq, app_data, app_data]
  cases h1 : a.data.toList with
  | nil => exact absurd h1 h
  | cons _ _ => rfl
theorem removed_list : removedB.toList = [114, 101, 109, 111, 118, 101, 100] := by rw [ByteArray.toList_eq]; rfl
theorem depr_list : deprB.toList = [100, 101, 112, 114, 101, 99, 97, 116, 101, 100] := by rw [ByteArray.toList_eq]; rfl
theorem none_list : noneB.toList = [105, 116, 115, 32, 67, 82, 68, 32, 115, 101, 114, 118, 101, 115, 32, 110, 111, 32, 118, 101, 114, 115, 105, 111, 110, 32, 116, 104, 97, 116, 32, 105, 115, 32, 110, 111, 116, 32, 100, 101, 112, 114, 101, 99, 97, 116, 101, 100] := by rw [ByteArray.toList_eq]; rfl
theorem empty_list : (⟨#[]⟩ : ByteArray).toList = [] := by rw [ByteArray.toList_eq]
theorem msg_ne (s d : Bool) (wn si : ByteArray) (h : (s && !d) = false) : (msgOf s d wn si).toList.isEmpty = false := by
  unfold msgOf
  rw [h]
  refine app_ne _ _ _ ?_
  cases s
  · decide
  · decide
theorem m1_ne (si : ByteArray) : ((m1B ++ sepB) ++ si).toList.isEmpty = false := app_ne _ _ _ (by decide)
/-- 'use ..' is not 'its ..'. -/
theorem si_ne {nm : Nat → ByteArray} {sv dp : Nat → Bool} {n : Nat} (h : srv nm sv dp n ≠ []) : siB nm sv dp n ≠ noneB := by
  intro e
  have h1 : (srv nm sv dp n).isEmpty = false := by
    cases hs : srv nm sv dp n with
    | nil => exact absurd hs h
    | cons _ _ => rfl
  unfold siB at e
  rw [h1] at e
  have := congrArg (fun b : ByteArray => b.data.toList.head?) e
  simp only [Bool.false_eq_true, if_false, app_data] at this
  revert this
  show some (117 : UInt8) = some 105 → False
  decide

theorem ByOut.at {nm wn : Nat → ByteArray} {sv dp : Nat → Bool} {n : Nat} {v S M : ByteArray} (h : ByOut nm wn sv dp n v S M) {k : Nat} (hk : k < n) (hv : nm k = v) (hf : ∀ j, j < k → nm j ≠ v) :
    S = stOf (sv k) (dp k) ∧ M = msgOf (sv k) (dp k) (wn k) (siB nm sv dp n) := by
  rcases h with ⟨i, a1, a2, a3, a4, a5⟩ | ⟨a1, _⟩
  · have : i = k := by
      by_cases e1 : i < k
      · exact absurd a2 (hf i e1)
      · by_cases e2 : k < i
        · exact absurd hv (a3 k e2)
        · omega
    subst this
    exact ⟨a4, a5⟩
  · exact absurd hv (a1 k hk)
theorem ByOut.none {nm wn : Nat → ByteArray} {sv dp : Nat → Bool} {n : Nat} {v S M : ByteArray} (h : ByOut nm wn sv dp n v S M) (hf : ∀ j, j < n → nm j ≠ v) :
    S = removedB ∧ M = (m1B ++ sepB) ++ siB nm sv dp n := by
  rcases h with ⟨i, a1, a2, _⟩ | ⟨_, a4, a5⟩
  · exact absurd a2 (hf i a1)
  · exact ⟨a4, a5⟩

set_option maxRecDepth 100000 in
set_option maxHeartbeats 8000000 in
theorem law6_walk (gr ki v : ByteArray) (no so to dpo wo : Option Addr) (n nc sl sc tl tc dl dc wl wc : Nat) (nm wn : Nat → ByteArray) (sv st dp : Nat → Bool) (w : World)
    (hg : gr.size ≤ maxLen) (hk : ki.size ≤ maxLen) (hv : v.size ≤ maxLen) (hn : n ≤ maxLen) (hsl : sl ≤ maxLen) (htl : tl ≤ maxLen) (hdl : dl ≤ maxLen) (hwl : wl ≤ maxLen)
    (hnm : Hid (∀ i, i < n → (nm i).size ≤ maxLen)) (hwn : Hid (∀ i, i < wl → (wn i).size ≤ maxLen))
    (z1 : Hid (no = none → n = 0)) (z2 : Hid (so = none → sl = 0)) (z3 : Hid (to = none → tl = 0)) (z4 : Hid (dpo = none → dl = 0)) (z5 : Hid (wo = none → wl = 0))
    (h1 : StrsAt w no n nm) (h2 : BoolsAt w so sl sv) (h3 : BoolsAt w to tl st) (h4 : BoolsAt w dpo dl dp) (h5 : StrsAt w wo wl wn) :
    Calls Try.prog 6 #[.string gr, .string ki, .slice no n nc, .slice so sl sc, .slice to tl tc, .slice dpo dl dc, .slice wo wl wc, .string v] w fun e w' => e = .returned (.bool true) ∧ Below w.heap.size w w' := by
  go_enter Try.func6, Try.ntmps6
  go_wp2_with fail
  refine (bytes16 gr ki v no so to dpo wo n nc sl sc tl tc dl dc wl wc nm wn _ hg hk hv hn hsl htl hdl hwl hnm hwn h1 h5).mono ?_
  rintro e w' ⟨⟨b, rfl⟩, rfl⟩
  cases b with
  | false =>
    go_wp2
    go_ret
    exact ⟨rfl, Below.refl _ _⟩
  | true =>
    go_wp2_with fail
    refine (over_any gr ki v no so to dpo wo n nc sl sc tl tc dl dc wl wc nm wn _ hg hk hv hn hsl htl hdl hwl hnm hwn h1 h5).mono ?_
    rintro e w' ⟨⟨b, rfl, hbb⟩, rfl⟩
    cases b with
    | true =>
      go_wp2
      go_ret
      exact ⟨rfl, Below.refl _ _⟩
    | false =>
      obtain ⟨b1, -, b3, b4⟩ := hbb rfl
      clear hbb hg hk hv hn hsl htl hdl hwl hnm hwn
      by_cases heq : sl = n ∧ tl = n ∧ dl = n ∧ wl = n
      · obtain ⟨rfl, rfl, rfl, rfl⟩ := heq
        have hw : Hid (∀ i, i < wl → (wn i).size ≤ 1048576) := fun i hi => Nat.le_trans (sumB_one wn hi) b4
        clear b4
        go_wp2_with fail
        refine (cloneStrs_any no wl nc nm (by omega) _ z1.out h1).mono ?_
        rintro e w1 ⟨no', rfl, hz1, h1, hb1⟩
        have Z1 : Hid (no' = none → wl = 0) := fun h => z1.out (by rw [h] at hz1; exact Option.isNone_iff_eq_none.1 hz1.symm)
        clear hz1
        go_wp2_with fail
        refine (cloneBools_any so wl sc sv (by omega) _ z2.out (h2.below hb1)).mono ?_
        rintro e w2 ⟨so', rfl, -, h2', hb2⟩
        have B2 := hb1.trans (hb2.mono hb1.size)
        have h1 := h1.below hb2
        go_wp2_with fail
        refine (cloneBools_any to wl tc st (by omega) _ z3.out (h3.below B2)).mono ?_
        rintro e w3 ⟨to', rfl, -, h3', hb3⟩
        have B3 := B2.trans (hb3.mono B2.size)
        have h1 := h1.below hb3
        have h2' := h2'.below hb3
        go_wp2_with fail
        refine (cloneBools_any dpo wl dc dp (by omega) _ z4.out (h4.below B3)).mono ?_
        rintro e w4 ⟨dpo', rfl, -, h4', hb4⟩
        have B4 := B3.trans (hb4.mono B3.size)
        have h1 := h1.below hb4
        have h2' := h2'.below hb4
        have h3' := h3'.below hb4
        go_wp2_with fail
        refine (cloneStrs_any wo wl wc wn (by omega) _ z5.out (h5.below B4)).mono ?_
        rintro e w5 ⟨wo', rfl, -, h5', hb5⟩
        have B5 := B4.trans (hb5.mono B4.size)
        have h1 := h1.below hb5
        have h2' := h2'.below hb5
        have h3' := h3'.below hb5
        have h4' := h4'.below hb5
        clear h2 h3 h4 h5 hb1 hb2 hb3 hb4 hb5 B2 B3 B4 z1 z2 z3 z4 z5
        go_wp2_with fail
        refine (zzBy_any gr ki v no' so' to' dpo' wo' wl wl wl wl wl wl nm wn sv st dp _ (by omega) b3 hw Z1 h1 h2' h3' h4' h5').mono ?_
        rintro e w6 ⟨S, M, rfl, hO, hb6⟩
        have B6 := B5.trans (hb6.mono B5.size)
        have HO := Hid.mkk hO
        have h1 := h1.below hb6
        have h2' := h2'.below hb6
        have h3' := h3'.below hb6
        have h4' := h4'.below hb6
        have h5' := h5'.below hb6
        clear hO hb6 B5
        go_wp2
        go_loopw [20] (fun i wr => ∃ k : Nat, k ≤ wl ∧ i = .int .i64 k ∧ Hid (∀ j, j < k → nm j ≠ v) ∧ wr = w6) (fun i _ => wl - (intOf i).toNat)
        case atStart => exact ⟨0, Nat.zero_le _, rfl, fun j hj => by omega, rfl⟩
        case round =>
          obtain ⟨k, hkn, rfl, HK, rfl⟩ := hrel
          by_cases hlt : k < wl
          · obtain ⟨b, off, e, hc⟩ := h1 k hlt
            subst e
            by_cases hv : nm k = v
            · have ht : ((nm k).toList == v.toList) = true := (beq_bytes _ _).2 hv
              obtain ⟨hS0, hM0⟩ : S = stOf (sv k) (dp k) ∧ M = msgOf (sv k) (dp k) (wn k) (siB nm sv dp wl) := HO.out.at hlt hv HK.out
              obtain ⟨b2, o2, e2, hc2⟩ := h2' k hlt
              obtain ⟨b4, o4, e4, hc4⟩ := h4' k hlt
              have hki : ((k : Int) == (wl : Int)) = false := beq_eq_false_iff_ne.2 (by omega)
              clear hv HO
              cases hs : sv k with
              | false =>
                rw [hs] at hc2 hS0 hM0
                have hS : S.toList = [114, 101, 109, 111, 118, 101, 100] := by rw [hS0]; exact removed_list
                have hM : M.toList.isEmpty = false := by rw [hM0]; exact msg_ne _ _ _ _ rfl
                clear hS0 hM0 hs
                subst e2 e4
                go_wp2
                go_ret
                exact ⟨rfl, B6⟩
              | true =>
                cases hd : dp k with
                | true =>
                  rw [hs] at hc2 hS0 hM0
                  rw [hd] at hc4 hS0 hM0
                  have hS : S.toList = [100, 101, 112, 114, 101, 99, 97, 116, 101, 100] := by rw [hS0]; exact depr_list
                  have hM : M.toList.isEmpty = false := by rw [hM0]; exact msg_ne _ _ _ _ rfl
                  clear hS0 hM0 hs hd
                  subst e2 e4
                  go_wp2
                  go_ret
                  exact ⟨rfl, B6⟩
                | false =>
                  have HNE := Hid.mkk (si_ne (nm := nm) (srv_ne nm sv dp hlt hs hd))
                  rw [hs] at hc2 hS0 hM0
                  rw [hd] at hc4 hS0 hM0
                  have hS : S.toList.isEmpty = true := by rw [hS0]; show (⟨#[]⟩ : ByteArray).toList.isEmpty = true; rw [empty_list]; rfl
                  have hM : M.toList.isEmpty = true := by rw [hM0]; show (⟨#[]⟩ : ByteArray).toList.isEmpty = true; rw [empty_list]; rfl
                  clear hS0 hM0 hs hd
                  subst e2 e4
                  go_wp2_with fail
                  refine (zzServed_any gr ki (some ⟨b, off, none⟩) (some ⟨b2, o2, none⟩) to' (some ⟨b4, o4, none⟩) wo' wl wl wl wl wl wl nm wn sv st dp _ (by omega) b3 Z1 h1 h2' h3' h4' h5').mono ?_
                  rintro e w7 ⟨rfl, hb7⟩
                  have B7 := B6.trans (hb7.mono B6.size)
                  have hne : (siB nm sv dp wl).toList ≠ noneB.toList := fun h => HNE.out ((beq_bytes _ _).1 (by rw [h]; simp))
                  rw [none_list] at hne
                  generalize siB nm sv dp wl = SS at *
                  clear hb7 HNE
                  go_wp2
                  go_ret
                  exact ⟨by simp [hne], B7⟩
            · have ht : ((nm k).toList == v.toList) = false := beq_bytes_ne _ _ hv
              have HV := Hid.mkk hv
              clear hv
              go_wp2
              go_roundw
              case rel => exact ⟨k + 1, by omega, by go_num, (fun j hj => by
                by_cases e : j = k
                · subst e; exact HV.out
                · exact HK.out j (by omega)), by trivial⟩
              case measure => simp [intOf]; omega
          · have hke : k = wl := by omega
            subst hke
            obtain ⟨hS0, hM0⟩ : S = removedB ∧ M = (m1B ++ sepB) ++ siB nm sv dp k := HO.out.none HK.out
            have hS : S.toList = [114, 101, 109, 111, 118, 101, 100] := by rw [hS0]; exact removed_list
            have hM : M.toList.isEmpty = false := by rw [hM0]; exact m1_ne _
            have hki : ((k : Int) == (k : Int)) = true := by simp
            clear hS0 hM0 HO
            go_wp2
            go_ret
            exact ⟨rfl, B6⟩
      · go_wp2
        all_goals (go_ret; exact ⟨rfl, Below.refl _ _⟩)
end Go.Proofs.Qxb6602758a
