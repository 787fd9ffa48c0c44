/-
  The seat's bounds: zzBytes_.. (14, 16) and zzBytesOver (8), walked once.
-/
import Derived.Test.Qxb6602758aSmall
import Derived.Test.Qxb6602758aSrv
namespace Go.Proofs.Qxb6602758a
open Go.RowKit Go.PlainAid
set_option linter.unusedVariables false

/-- A bool is handed back. -/
def AnyBool (e : Ending) : Prop := ∃ b, e = .returned (.bool b)

set_option maxRecDepth 100000 in
set_option maxHeartbeats 8000000 in
theorem bytes16 (gr ki v : ByteArray) (no so to dpo wo : Option Addr) (n nc sl sc tl tc dl dc wl wc : Nat) (nm wn : Nat → ByteArray) (w : World)
    (hg : gr.size ≤ maxLen) (hk : ki.size ≤ maxLen) (hv : v.size ≤ maxLen) (hn : n ≤ maxLen) (hsl : sl ≤ maxLen) (htl : tl ≤ maxLen) (hdl : dl ≤ maxLen) (hwl : wl ≤ maxLen)
    (hnm : Hid (∀ i, i < n → (nm i).size ≤ maxLen)) (hwn : Hid (∀ i, i < wl → (wn i).size ≤ maxLen)) (h1 : StrsAt w no n nm) (h5 : StrsAt w wo wl wn) :
    Calls Try.prog 16 #[.string gr, .string ki, .slice no n nc, .slice so sl sc, .slice to tl tc, .slice dpo dl dc, .slice wo wl wc, .string v] w fun e w' => AnyBool e ∧ w = w' := by
  unfold maxLen at hg hk hv hn hsl htl hdl hwl
  by_cases hA : gr.size + ki.size + n ≤ 1048576
  · have d1 : decide ((1048576 : Int) < (gr.size : Int)) = false := decide_eq_false (by omega)
    have d2 : decide ((1048576 : Int) < (ki.size : Int)) = false := decide_eq_false (by omega)
    have d3 : decide ((1048576 : Int) < (gr.size : Int) + (ki.size : Int)) = false := decide_eq_false (by omega)
    have d4 : decide ((1048576 : Int) < (n : Int)) = false := decide_eq_false (by omega)
    have d5 : decide ((1048576 : Int) < (gr.size : Int) + (ki.size : Int) + (n : Int)) = false := decide_eq_false (by omega)
    go_enter Try.func16, Try.ntmps16
    go_wp2
    go_loop [17, 18] (fun t i => ∃ (z k : Nat), z ≤ 1048576 ∧ k ≤ n ∧ t = .int .i64 z ∧ i = .int .i64 k) (fun _ i => n - (intOf i).toNat)
    case atStart => exact ⟨gr.size + ki.size + n, 0, hA, Nat.zero_le _, by go_num, rfl⟩
    case round =>
      obtain ⟨z, k, hz, hkn, rfl, rfl⟩ := hrel
      by_cases hlt : k < n
      · obtain ⟨b, off, e, hc⟩ := h1 k hlt
        subst e
        have hs := hnm.out k hlt
        unfold maxLen at hs
        by_cases hB : z + (nm k).size ≤ 1048576
        · have e1 : decide ((1048576 : Int) < ((nm k).size : Int)) = false := decide_eq_false (by omega)
          have e2 : decide ((1048576 : Int) < (z : Int) + ((nm k).size : Int)) = false := decide_eq_false (by omega)
          go_wp2
          go_round
          case rel => exact ⟨z + (nm k).size, k + 1, hB, by omega, by go_num, by go_num⟩
          case measure => simp [intOf]; omega
        · by_cases hB' : (nm k).size ≤ 1048576
          · go_wp2
            go_ret
            exact ⟨⟨_, rfl⟩, rfl⟩
          · go_wp2
            go_ret
            exact ⟨⟨_, rfl⟩, rfl⟩
      · clear d1 d2 d3 d4 d5 hA
        by_cases hA : z + sl + tl + dl + wl ≤ 1048576
        · have d1 : decide ((1048576 : Int) < (sl : Int)) = false := decide_eq_false (by omega)
          have d2 : decide ((1048576 : Int) < (tl : Int)) = false := decide_eq_false (by omega)
          have d3 : decide ((1048576 : Int) < (dl : Int)) = false := decide_eq_false (by omega)
          have d4 : decide ((1048576 : Int) < (wl : Int)) = false := decide_eq_false (by omega)
          have d5 : decide ((1048576 : Int) < (z : Int) + (sl : Int)) = false := decide_eq_false (by omega)
          have d6 : decide ((1048576 : Int) < (z : Int) + (sl : Int) + (tl : Int)) = false := decide_eq_false (by omega)
          have d7 : decide ((1048576 : Int) < (z : Int) + (sl : Int) + (tl : Int) + (dl : Int)) = false := decide_eq_false (by omega)
          have d8 : decide ((1048576 : Int) < (z : Int) + (sl : Int) + (tl : Int) + (dl : Int) + (wl : Int)) = false := decide_eq_false (by omega)
          go_wp2
          go_loop [17, 19] (fun t i => ∃ (z k : Nat), z ≤ 1048576 ∧ k ≤ wl ∧ t = .int .i64 z ∧ i = .int .i64 k) (fun _ i => wl - (intOf i).toNat)
          case atStart => exact ⟨z + sl + tl + dl + wl, 0, hA, Nat.zero_le _, by go_num, rfl⟩
          case round =>
            clear hkn hlt hz
            clear d1 d2 d3 d4 d5 d6 d7 d8 hA
            obtain ⟨z, k, hz, hkn, rfl, rfl⟩ := hrel
            by_cases hlt : k < wl
            · obtain ⟨b, off, e, hc⟩ := h5 k hlt
              subst e
              have hs := hwn.out k hlt
              unfold maxLen at hs
              by_cases hB : z + (wn k).size ≤ 1048576
              · have e1 : decide ((1048576 : Int) < ((wn k).size : Int)) = false := decide_eq_false (by omega)
                have e2 : decide ((1048576 : Int) < (z : Int) + ((wn k).size : Int)) = false := decide_eq_false (by omega)
                go_wp2
                go_round
                case rel => exact ⟨z + (wn k).size, k + 1, hB, by omega, by go_num, by go_num⟩
                case measure => simp [intOf]; omega
              · by_cases hB' : (wn k).size ≤ 1048576
                · go_wp2
                  go_ret
                  exact ⟨⟨_, rfl⟩, rfl⟩
                · go_wp2
                  go_ret
                  exact ⟨⟨_, rfl⟩, rfl⟩
            · go_wp2
              all_goals (go_ret; exact ⟨⟨_, rfl⟩, rfl⟩)
        · go_wp2
          all_goals (go_ret; exact ⟨⟨_, rfl⟩, rfl⟩)
  · go_enter Try.func16, Try.ntmps16
    go_wp2
    all_goals (go_ret; exact ⟨⟨_, rfl⟩, rfl⟩)

set_option maxRecDepth 100000 in
set_option maxHeartbeats 8000000 in
theorem bytes14 (gr ki v : ByteArray) (no so to dpo wo : Option Addr) (n nc sl sc tl tc dl dc wl wc : Nat) (nm wn : Nat → ByteArray) (w : World)
    (hg : gr.size ≤ maxLen) (hk : ki.size ≤ maxLen) (hv : v.size ≤ maxLen) (hn : n ≤ maxLen) (hsl : sl ≤ maxLen) (htl : tl ≤ maxLen) (hdl : dl ≤ maxLen) (hwl : wl ≤ maxLen)
    (hnm : Hid (∀ i, i < n → (nm i).size ≤ maxLen)) (hwn : Hid (∀ i, i < wl → (wn i).size ≤ maxLen)) (h1 : StrsAt w no n nm) (h5 : StrsAt w wo wl wn) :
    Calls Try.prog 14 #[.string gr, .string ki, .slice no n nc, .slice so sl sc, .slice to tl tc, .slice dpo dl dc, .slice wo wl wc, .string v] w fun e w' => AnyBool e ∧ w = w' := by
  unfold maxLen at hg hk hv hn hsl htl hdl hwl
  by_cases hA : gr.size + ki.size + n ≤ 1048576
  · have d1 : decide ((1048576 : Int) < (gr.size : Int)) = false := decide_eq_false (by omega)
    have d2 : decide ((1048576 : Int) < (ki.size : Int)) = false := decide_eq_false (by omega)
    have d3 : decide ((1048576 : Int) < (gr.size : Int) + (ki.size : Int)) = false := decide_eq_false (by omega)
    have d4 : decide ((1048576 : Int) < (n : Int)) = false := decide_eq_false (by omega)
    have d5 : decide ((1048576 : Int) < (gr.size : Int) + (ki.size : Int) + (n : Int)) = false := decide_eq_false (by omega)
    go_enter Try.func14, Try.ntmps14
    go_wp2
    go_loop [17, 18] (fun t i => ∃ (z k : Nat), z ≤ 1048576 ∧ k ≤ n ∧ t = .int .i64 z ∧ i = .int .i64 k) (fun _ i => n - (intOf i).toNat)
    case atStart => exact ⟨gr.size + ki.size + n, 0, hA, Nat.zero_le _, by go_num, rfl⟩
    case round =>
      obtain ⟨z, k, hz, hkn, rfl, rfl⟩ := hrel
      by_cases hlt : k < n
      · obtain ⟨b, off, e, hc⟩ := h1 k hlt
        subst e
        have hs := hnm.out k hlt
        unfold maxLen at hs
        by_cases hB : z + (nm k).size ≤ 1048576
        · have e1 : decide ((1048576 : Int) < ((nm k).size : Int)) = false := decide_eq_false (by omega)
          have e2 : decide ((1048576 : Int) < (z : Int) + ((nm k).size : Int)) = false := decide_eq_false (by omega)
          go_wp2
          go_round
          case rel => exact ⟨z + (nm k).size, k + 1, hB, by omega, by go_num, by go_num⟩
          case measure => simp [intOf]; omega
        · by_cases hB' : (nm k).size ≤ 1048576
          · go_wp2
            go_ret
            exact ⟨⟨_, rfl⟩, rfl⟩
          · go_wp2
            go_ret
            exact ⟨⟨_, rfl⟩, rfl⟩
      · clear d1 d2 d3 d4 d5 hA
        by_cases hA : z + sl + tl + dl + wl ≤ 1048576
        · have d1 : decide ((1048576 : Int) < (sl : Int)) = false := decide_eq_false (by omega)
          have d2 : decide ((1048576 : Int) < (tl : Int)) = false := decide_eq_false (by omega)
          have d3 : decide ((1048576 : Int) < (dl : Int)) = false := decide_eq_false (by omega)
          have d4 : decide ((1048576 : Int) < (wl : Int)) = false := decide_eq_false (by omega)
          have d5 : decide ((1048576 : Int) < (z : Int) + (sl : Int)) = false := decide_eq_false (by omega)
          have d6 : decide ((1048576 : Int) < (z : Int) + (sl : Int) + (tl : Int)) = false := decide_eq_false (by omega)
          have d7 : decide ((1048576 : Int) < (z : Int) + (sl : Int) + (tl : Int) + (dl : Int)) = false := decide_eq_false (by omega)
          have d8 : decide ((1048576 : Int) < (z : Int) + (sl : Int) + (tl : Int) + (dl : Int) + (wl : Int)) = false := decide_eq_false (by omega)
          go_wp2
          go_loop [17, 19] (fun t i => ∃ (z k : Nat), z ≤ 1048576 ∧ k ≤ wl ∧ t = .int .i64 z ∧ i = .int .i64 k) (fun _ i => wl - (intOf i).toNat)
          case atStart => exact ⟨z + sl + tl + dl + wl, 0, hA, Nat.zero_le _, by go_num, rfl⟩
          case round =>
            clear hkn hlt hz
            clear d1 d2 d3 d4 d5 d6 d7 d8 hA
            obtain ⟨z, k, hz, hkn, rfl, rfl⟩ := hrel
            by_cases hlt : k < wl
            · obtain ⟨b, off, e, hc⟩ := h5 k hlt
              subst e
              have hs := hwn.out k hlt
              unfold maxLen at hs
              by_cases hB : z + (wn k).size ≤ 1048576
              · have e1 : decide ((1048576 : Int) < ((wn k).size : Int)) = false := decide_eq_false (by omega)
                have e2 : decide ((1048576 : Int) < (z : Int) + ((wn k).size : Int)) = false := decide_eq_false (by omega)
                go_wp2
                go_round
                case rel => exact ⟨z + (wn k).size, k + 1, hB, by omega, by go_num, by go_num⟩
                case measure => simp [intOf]; omega
              · by_cases hB' : (wn k).size ≤ 1048576
                · go_wp2
                  go_ret
                  exact ⟨⟨_, rfl⟩, rfl⟩
                · go_wp2
                  go_ret
                  exact ⟨⟨_, rfl⟩, rfl⟩
            · go_wp2
              all_goals (go_ret; exact ⟨⟨_, rfl⟩, rfl⟩)
        · go_wp2
          all_goals (go_ret; exact ⟨⟨_, rfl⟩, rfl⟩)
  · go_enter Try.func14, Try.ntmps14
    go_wp2
    all_goals (go_ret; exact ⟨⟨_, rfl⟩, rfl⟩)

/-- zzBytesOver's answer, and what it is good for. -/
def OverOut (e : Ending) (n wl : Nat) (nm wn : Nat → ByteArray) : Prop := ∃ b, e = .returned (.bool b) ∧ (b = false → n ≤ 65536 ∧ wl ≤ 65536 ∧ sumB nm n ≤ 1048576 ∧ sumB wn wl ≤ 1048576)
theorem OverOut.yes (n wl : Nat) (nm wn : Nat → ByteArray) : OverOut (.returned (.bool true)) n wl nm wn := ⟨true, rfl, fun h => by cases h⟩

set_option maxRecDepth 100000 in
set_option maxHeartbeats 8000000 in
theorem over_any (gr ki v : ByteArray) (no so to dpo wo : Option Addr) (n nc sl sc tl tc dl dc wl wc : Nat) (nm wn : Nat → ByteArray) (w : World)
    (hg : gr.size ≤ maxLen) (hk : ki.size ≤ maxLen) (hv : v.size ≤ maxLen) (hn : n ≤ maxLen) (hsl : sl ≤ maxLen) (htl : tl ≤ maxLen) (hdl : dl ≤ maxLen) (hwl : wl ≤ maxLen)
    (hnm : Hid (∀ i, i < n → (nm i).size ≤ maxLen)) (hwn : Hid (∀ i, i < wl → (wn i).size ≤ maxLen)) (h1 : StrsAt w no n nm) (h5 : StrsAt w wo wl wn) :
    Calls Try.prog 8 #[.string gr, .string ki, .string v, .slice no n nc, .slice so sl sc, .slice to tl tc, .slice dpo dl dc, .slice wo wl wc] w fun e w' => OverOut e n wl nm wn ∧ w = w' := by
  unfold maxLen at hg hk hv hn hsl htl hdl hwl
  by_cases hA : n ≤ 65536 ∧ wl ≤ 65536 ∧ 16 * n + 16 * wl ≤ 1048576
  · obtain ⟨hA1, hA2, hA3⟩ := hA
    have d1 : decide ((65536 : Int) < (n : Int)) = false := decide_eq_false (by omega)
    have d2 : decide ((65536 : Int) < (wl : Int)) = false := decide_eq_false (by omega)
    have d3 : decide ((1048576 : Int) < 16 * (n : Int) + 16 * (wl : Int)) = false := decide_eq_false (by omega)
    go_enter Try.func8, Try.ntmps8
    go_wp2_with fail
    refine (zzAdd_any (16 * (n : Int) + 16 * (wl : Int)) (gr.size : Int) _ (by omega) (by omega) (by omega) (by omega)).mono ?_
    rintro e w' ⟨⟨t', rfl⟩ | ⟨ht0, rfl⟩, rfl⟩
    · go_wp2
      go_ret
      exact ⟨OverOut.yes _ _ _ _, rfl⟩
    go_wp2_with fail
    refine (zzAdd_any (16 * (n : Int) + 16 * (wl : Int) + (gr.size : Int)) (ki.size : Int) _ (by omega) (by omega) (by omega) (by omega)).mono ?_
    rintro e w' ⟨⟨t', rfl⟩ | ⟨ht1, rfl⟩, rfl⟩
    · go_wp2
      go_ret
      exact ⟨OverOut.yes _ _ _ _, rfl⟩
    go_wp2_with fail
    refine (zzAdd_any (16 * (n : Int) + 16 * (wl : Int) + (gr.size : Int) + (ki.size : Int)) (v.size : Int) _ (by omega) (by omega) (by omega) (by omega)).mono ?_
    rintro e w' ⟨⟨t', rfl⟩ | ⟨ht2, rfl⟩, rfl⟩
    · go_wp2
      go_ret
      exact ⟨OverOut.yes _ _ _ _, rfl⟩
    go_wp2_with fail
    refine (zzAdd_any (16 * (n : Int) + 16 * (wl : Int) + (gr.size : Int) + (ki.size : Int) + (v.size : Int)) (sl : Int) _ (by omega) (by omega) (by omega) (by omega)).mono ?_
    rintro e w' ⟨⟨t', rfl⟩ | ⟨ht3, rfl⟩, rfl⟩
    · go_wp2
      go_ret
      exact ⟨OverOut.yes _ _ _ _, rfl⟩
    go_wp2_with fail
    refine (zzAdd_any (16 * (n : Int) + 16 * (wl : Int) + (gr.size : Int) + (ki.size : Int) + (v.size : Int) + (sl : Int)) (tl : Int) _ (by omega) (by omega) (by omega) (by omega)).mono ?_
    rintro e w' ⟨⟨t', rfl⟩ | ⟨ht4, rfl⟩, rfl⟩
    · go_wp2
      go_ret
      exact ⟨OverOut.yes _ _ _ _, rfl⟩
    go_wp2_with fail
    refine (zzAdd_any (16 * (n : Int) + 16 * (wl : Int) + (gr.size : Int) + (ki.size : Int) + (v.size : Int) + (sl : Int) + (tl : Int)) (dl : Int) _ (by omega) (by omega) (by omega) (by omega)).mono ?_
    rintro e w' ⟨⟨t', rfl⟩ | ⟨ht5, rfl⟩, rfl⟩
    · go_wp2
      go_ret
      exact ⟨OverOut.yes _ _ _ _, rfl⟩
    go_wp2
    go_loopw [17, 18, 19] (fun t o i wr => ∃ (z k : Nat), z ≤ 1048576 ∧ k ≤ n ∧ sumB nm k ≤ z ∧ t = .int .i64 z ∧ o = .bool false ∧ i = .int .i64 k ∧ wr = w) (fun _ _ i _ => n - (intOf i).toNat)
    case atStart => exact ⟨16 * n + 16 * wl + gr.size + ki.size + v.size + sl + tl + dl, 0, by omega, Nat.zero_le _, Nat.zero_le _, by go_num, rfl, rfl, rfl⟩
    case round =>
      obtain ⟨z, k, hz, hkn, hzs, rfl, rfl, rfl, rfl⟩ := hrel
      by_cases hlt : k < n
      · obtain ⟨b, off, e, hc⟩ := h1 k hlt
        subst e
        have hs := hnm.out k hlt
        unfold maxLen at hs
        have HS : Hid (sumB nm (k + 1) = sumB nm k + (nm k).size) := rfl
        go_wp2_with fail
        refine (zzAdd_any (z : Int) ((nm k).size : Int) _ (by omega) (by omega) (by omega) (by omega)).mono ?_
        rintro e w' ⟨⟨t', rfl⟩ | ⟨ht, rfl⟩, rfl⟩
        · go_wp2
          go_ret
          exact ⟨OverOut.yes _ _ _ _, rfl⟩
        · go_wp2
          go_roundw
          case rel => exact ⟨z + (nm k).size, k + 1, by omega, by omega, by rw [HS.out]; omega, by go_num, rfl, by go_num, by trivial⟩
          case measure => simp [intOf]; omega
      · have hkn' : k = n := by omega
        subst hkn'
        go_wp2
        go_loopw [17, 18, 20] (fun t o i wx => ∃ (z l : Nat), z ≤ 1048576 ∧ l ≤ wl ∧ sumB wn l ≤ z ∧ t = .int .i64 z ∧ o = .bool false ∧ i = .int .i64 l ∧ wx = wr) (fun _ _ i _ => wl - (intOf i).toNat)
        case atStart => exact ⟨z, 0, hz, Nat.zero_le _, Nat.zero_le _, rfl, rfl, rfl, rfl⟩
        case round =>
          have HZ := Hid.mkk hzs
          have HZ2 := Hid.mkk hz
          clear hzs hz
          obtain ⟨y, l, hy, hln, hys, rfl, rfl, rfl, rfl⟩ := hrel
          by_cases hlt : l < wl
          · obtain ⟨b, off, e, hc⟩ := h5 l hlt
            subst e
            have hs := hwn.out l hlt
            unfold maxLen at hs
            have HS : Hid (sumB wn (l + 1) = sumB wn l + (wn l).size) := rfl
            go_wp2_with fail
            refine (zzAdd_any (y : Int) ((wn l).size : Int) _ (by omega) (by omega) (by omega) (by omega)).mono ?_
            rintro e w' ⟨⟨t', rfl⟩ | ⟨ht, rfl⟩, rfl⟩
            · go_wp2
              go_ret
              exact ⟨OverOut.yes _ _ _ _, rfl⟩
            · go_wp2
              go_roundw
              case rel => exact ⟨y + (wn l).size, l + 1, by omega, by omega, by rw [HS.out]; omega, by go_num, rfl, by go_num, by trivial⟩
              case measure => simp [intOf]; omega
          · have hl' : l = wl := by omega
            subst hl'
            go_wp2
            go_ret
            exact ⟨⟨false, rfl, fun _ => ⟨hA1, hA2, Nat.le_trans HZ.out HZ2.out, by omega⟩⟩, rfl⟩
  · go_enter Try.func8, Try.ntmps8
    go_wp2
    all_goals (go_ret; exact ⟨OverOut.yes _ _ _ _, rfl⟩)
end Go.Proofs.Qxb6602758a
