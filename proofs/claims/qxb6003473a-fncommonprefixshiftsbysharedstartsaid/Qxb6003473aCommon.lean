/-
  'lists.commonPrefix' (function 25) walked once: it returns the length of the longest shared start of its two strings.
-/
import Derived.Test.Qxb6003473aProg
import Derived.Test.Qxb6003473aCp
import Derived.WalkKit
import Derived.PlainAid
import Derived.Lib.Strings
import Derived.WalkLawsBesides
import Derived.Deep.QuietTactic
import Derived.BigQuiet
namespace Go.Proofs.Qxb6003473a
open Go.RowKit Go.PlainAid

theorem Cp.take_eq (l m : List UInt8) (n : Nat) : l.take n = m.take n ↔ ∀ i, i < n → l[i]? = m[i]? := by
  constructor
  · intro h i hi
    have := congrArg (·[i]?) h
    simpa [List.getElem?_take, hi] using this
  · intro h
    apply List.ext_getElem?
    intro i
    simp only [List.getElem?_take]
    split
    · exact h i ‹_›
    · rfl

/-- The first n bytes of two strings are the same. -/
def Agree (a b : ByteArray) (n : Nat) : Prop := ∀ i, i < n → a.data.toList[i]? = b.data.toList[i]?

theorem size_eq (a : ByteArray) : a.data.toList.length = a.size := by simp

theorem agree_left (a b : ByteArray) : ((a.extract 0 b.size).toList == b.toList) = true ↔ Agree a b b.size := by
  rw [ByteArray.toList_eq, ByteArray.toList_eq, Lib.extract_data, beq_iff_eq]
  unfold Agree
  rw [← Cp.take_eq]
  have : b.data.toList.take b.size = b.data.toList := List.take_of_length_le (by simp)
  rw [this]; simp
theorem agree_right (a b : ByteArray) : (a.toList == (b.extract 0 a.size).toList) = true ↔ Agree a b a.size := by
  rw [ByteArray.toList_eq, ByteArray.toList_eq, Lib.extract_data, beq_iff_eq]
  unfold Agree
  rw [← Cp.take_eq]
  have : a.data.toList.take a.size = a.data.toList := List.take_of_length_le (by simp)
  rw [this]; simp
theorem agree_block (a b : ByteArray) (k : Nat) (hk : Agree a b k) (h : ((a.extract k (k + 64)).toList == (b.extract k (k + 64)).toList) = true) : Agree a b (k + 64) := by
  rw [ByteArray.toList_eq, ByteArray.toList_eq, Lib.extract_data, Lib.extract_data, beq_iff_eq, Nat.add_sub_cancel_left, Cp.take_eq] at h
  intro i hi
  by_cases hlt : i < k
  · exact hk i hlt
  · have := h (i - k) (by omega)
    simpa [List.getElem?_drop, show k + (i - k) = i by omega] using this

theorem bt_get (s : ByteArray) (k : Nat) (h : k < s.size) : ∃ x : UInt8, s.data.toList[k]? = some x ∧ bt s k = x.toNat := by
  refine ⟨s[k], ?_, ?_⟩
  · rw [List.getElem?_eq_getElem (by simpa using h)]; rfl
  · unfold bt; rw [dif_pos h]

theorem bt_eq_iff (a b : ByteArray) (k : Nat) (ha : k < a.size) (hb : k < b.size) : bt a k = bt b k ↔ a.data.toList[k]? = b.data.toList[k]? := by
  obtain ⟨x, hx, ex⟩ := bt_get a k ha
  obtain ⟨y, hy, ey⟩ := bt_get b k hb
  rw [hx, hy, ex, ey]
  constructor
  · intro h; congr 1; exact UInt8.toNat_inj.1 (by omega)
  · intro h; simp at h; rw [h]

theorem ret_int {k : IntKind} {a b : Int} (h : a = b) : Ending.returned (.int k a) = .returned (.int k b) := by rw [h]

theorem agree_step (a b : ByteArray) (k : Nat) (h : Agree a b k) (e : a.data.toList[k]? = b.data.toList[k]?) : Agree a b (k + 1) := by
  intro i hi
  by_cases hlt : i < k
  · exact h i hlt
  · rw [show i = k by omega]; exact e
theorem drewN_drewN (w : World) (m n : Nat) : ∃ q, (w.drewN m).drewN n = w.drewN q := ⟨_, World.drewN_drewN _ _ _⟩

theorem slice_block (s : ByteArray) (k : Nat) (h : k + 64 ≤ s.size) (w : World) :
    (Instr.slice 9 (.string s) (some (.int .i64 (k : Int))) (some (.int .i64 ((k : Int) + 64))) none).run Try.prog w = .ok (.string (s.extract k (k + 64))) w := by
  rw [run_slice_string w 9 s .i64 .i64 (k : Int) ((k : Int) + 64) Try.underlying9 (by omega) (by omega) (by omega)]
  rw [show ((k : Int) + 64).toNat = k + 64 from by omega, show (k : Int).toNat = k from by omega]

set_option maxHeartbeats 1000000 in
theorem commonPrefix_any (a b : ByteArray) (w : World) (ha : a.size ≤ 1048576) (hb : b.size ≤ 1048576) :
    Calls Try.prog 25 #[.string a, .string b] w fun e w' => e = .returned (.int .i64 (Cp.cp a.data.toList b.data.toList)) ∧ ∃ n, w' = w.drewN n := by
  have hga := get_bt a
  have hgb := get_bt b
  by_cases hab : b.size < a.size
  · by_cases hag : Agree a b b.size
    · have ht := (agree_left a b).2 hag
      go_enter Try.func25, Try.ntmps25
      go_wp2
      go_quiet (fail)
      go_wp2
      go_ret
      exact ⟨ret_int (by rw [Cp.cp_of_end _ _ b.size hag (by simp; omega)]), _, rfl⟩
    · have ht : ((a.extract 0 b.size).toList == b.toList) = false := by
        rw [← Bool.not_eq_true]; exact fun h => hag ((agree_left a b).1 h)
      have HN : Hid (¬ Agree a b b.size) := hag
      clear hag
      go_enter Try.func25, Try.ntmps25
      go_wp2
      go_quiet (fail)
      go_wp2
      clear ht
      go_loopw [6] (fun i wr => ∃ k : Nat, k ≤ b.size ∧ i = .int .i64 k ∧ Agree a b k ∧ ∃ n, wr = w.drewN n) (fun i _ => b.size - (intOf i).toNat)
      case atStart => exact ⟨0, Nat.zero_le _, rfl, (fun i hi => by omega), _, rfl⟩
      case round =>
        obtain ⟨k, hk, rfl, hkk, nq, rfl⟩ := hrel
        have hklt : k < b.size := by
          by_cases e : k = b.size
          · exact absurd (e ▸ hkk) HN.out
          · omega
        have hw : IntKind.i64.wrap ((k : Int) + 64) = (k : Int) + 64 := IntWalk.i64_in _ ⟨by omega, by omega⟩
        rcases (show (k + 64 ≤ b.size ∧ ((a.extract k (k + 64)).toList == (b.extract k (k + 64)).toList) = true) ∨ (k + 64 ≤ b.size ∧ ((a.extract k (k + 64)).toList == (b.extract k (k + 64)).toList) = false) ∨ ¬ k + 64 ≤ b.size from by
          by_cases h1 : k + 64 ≤ b.size <;> cases h2 : ((a.extract k (k + 64)).toList == (b.extract k (k + 64)).toList) <;> simp [h1]) with ⟨hg, heq⟩ | ⟨hg, heq⟩ | hg
        · have hkk' := agree_block a b k hkk heq
          have hd : (k : Int) + 64 ≤ (b.size : Int) := by omega
          have hs1 := slice_block a k (by omega)
          have hs2 := slice_block b k (by omega)
          go_wp2
          go_quiet (fail)
          go_wp2
          go_roundw
          case rel => exact ⟨k + 64, hg, by go_num, hkk', _, rfl⟩
          case measure => simp [intOf]; omega
        · have hd : (k : Int) + 64 ≤ (b.size : Int) := by omega
          have hs1 := slice_block a k (by omega)
          have hs2 := slice_block b k (by omega)
          go_wp2
          go_quiet (fail)
          go_wp2
          clear heq hs1 hs2
          go_loopw [6] (fun i wr => ∃ k : Nat, k < b.size ∧ i = .int .i64 k ∧ Agree a b k ∧ ∃ n, wr = w.drewN n) (fun i _ => b.size - (intOf i).toNat)
          case atStart => exact ⟨k, hklt, rfl, hkk, by first | exact ⟨_, rfl⟩ | exact drewN_drewN _ _ _⟩
          case round =>
            clear hd hw hg hk hkk hklt
            obtain ⟨k, hk, rfl, hkk, nq, rfl⟩ := hrel
            have hbi := bt_eq_iff a b k (by omega) (by omega)
            by_cases he : bt a k = bt b k
            · have hkk' := agree_step a b k hkk (hbi.1 he)
              have hklt : k + 1 < b.size := by
                by_cases e : k + 1 = b.size
                · exact absurd (e ▸ hkk') HN.out
                · omega
              have het : (bt a k == bt b k) = true := by simpa using he
              clear hbi he
              go_wp2
              go_quiet (fail)
              go_wp2
              go_roundw
              case rel => exact ⟨k + 1, hklt, by go_num, hkk', _, rfl⟩
              case measure => simp [intOf]; omega
            · have HC : Hid (Cp.cp a.data.toList b.data.toList = k) := Cp.cp_of_part _ _ k hkk (by simp; omega) (by simp; omega) (fun h => he (hbi.2 h))
              have het : (bt a k == bt b k) = false := by simpa using he
              clear hbi he
              go_wp2
              go_quiet (fail)
              go_wp2
              go_ret
              exact ⟨ret_int (by rw [HC.out]), by first | exact ⟨_, rfl⟩ | exact drewN_drewN _ _ _⟩
        · have hd : decide ((k : Int) + 64 ≤ (b.size : Int)) = false := by simp; omega
          go_wp2
          go_quiet (fail)
          go_wp2
          go_loopw [6] (fun i wr => ∃ k : Nat, k < b.size ∧ i = .int .i64 k ∧ Agree a b k ∧ ∃ n, wr = w.drewN n) (fun i _ => b.size - (intOf i).toNat)
          case atStart => exact ⟨k, hklt, rfl, hkk, by first | exact ⟨_, rfl⟩ | exact drewN_drewN _ _ _⟩
          case round =>
            clear hd hw hg hk hkk hklt
            obtain ⟨k, hk, rfl, hkk, nq, rfl⟩ := hrel
            have hbi := bt_eq_iff a b k (by omega) (by omega)
            by_cases he : bt a k = bt b k
            · have hkk' := agree_step a b k hkk (hbi.1 he)
              have hklt : k + 1 < b.size := by
                by_cases e : k + 1 = b.size
                · exact absurd (e ▸ hkk') HN.out
                · omega
              have het : (bt a k == bt b k) = true := by simpa using he
              clear hbi he
              go_wp2
              go_quiet (fail)
              go_wp2
              go_roundw
              case rel => exact ⟨k + 1, hklt, by go_num, hkk', _, rfl⟩
              case measure => simp [intOf]; omega
            · have HC : Hid (Cp.cp a.data.toList b.data.toList = k) := Cp.cp_of_part _ _ k hkk (by simp; omega) (by simp; omega) (fun h => he (hbi.2 h))
              have het : (bt a k == bt b k) = false := by simpa using he
              clear hbi he
              go_wp2
              go_quiet (fail)
              go_wp2
              go_ret
              exact ⟨ret_int (by rw [HC.out]), by first | exact ⟨_, rfl⟩ | exact drewN_drewN _ _ _⟩
  · by_cases hag : Agree a b a.size
    · have ht := (agree_right a b).2 hag
      go_enter Try.func25, Try.ntmps25
      go_wp2
      go_quiet (fail)
      go_wp2
      go_ret
      exact ⟨ret_int (by rw [Cp.cp_of_end _ _ a.size hag (by simp; omega)]), _, rfl⟩
    · have ht : (a.toList == (b.extract 0 a.size).toList) = false := by
        rw [← Bool.not_eq_true]; exact fun h => hag ((agree_right a b).1 h)
      have HN : Hid (¬ Agree a b a.size) := hag
      clear hag
      go_enter Try.func25, Try.ntmps25
      go_wp2
      go_quiet (fail)
      go_wp2
      clear ht
      go_loopw [6] (fun i wr => ∃ k : Nat, k ≤ a.size ∧ i = .int .i64 k ∧ Agree a b k ∧ ∃ n, wr = w.drewN n) (fun i _ => a.size - (intOf i).toNat)
      case atStart => exact ⟨0, Nat.zero_le _, rfl, (fun i hi => by omega), _, rfl⟩
      case round =>
        obtain ⟨k, hk, rfl, hkk, nq, rfl⟩ := hrel
        have hklt : k < a.size := by
          by_cases e : k = a.size
          · exact absurd (e ▸ hkk) HN.out
          · omega
        have hw : IntKind.i64.wrap ((k : Int) + 64) = (k : Int) + 64 := IntWalk.i64_in _ ⟨by omega, by omega⟩
        rcases (show (k + 64 ≤ a.size ∧ ((a.extract k (k + 64)).toList == (b.extract k (k + 64)).toList) = true) ∨ (k + 64 ≤ a.size ∧ ((a.extract k (k + 64)).toList == (b.extract k (k + 64)).toList) = false) ∨ ¬ k + 64 ≤ a.size from by
          by_cases h1 : k + 64 ≤ a.size <;> cases h2 : ((a.extract k (k + 64)).toList == (b.extract k (k + 64)).toList) <;> simp [h1]) with ⟨hg, heq⟩ | ⟨hg, heq⟩ | hg
        · have hkk' := agree_block a b k hkk heq
          have hd : (k : Int) + 64 ≤ (a.size : Int) := by omega
          have hs1 := slice_block a k (by omega)
          have hs2 := slice_block b k (by omega)
          go_wp2
          go_quiet (fail)
          go_wp2
          go_roundw
          case rel => exact ⟨k + 64, hg, by go_num, hkk', _, rfl⟩
          case measure => simp [intOf]; omega
        · have hd : (k : Int) + 64 ≤ (a.size : Int) := by omega
          have hs1 := slice_block a k (by omega)
          have hs2 := slice_block b k (by omega)
          go_wp2
          go_quiet (fail)
          go_wp2
          clear heq hs1 hs2
          go_loopw [6] (fun i wr => ∃ k : Nat, k < a.size ∧ i = .int .i64 k ∧ Agree a b k ∧ ∃ n, wr = w.drewN n) (fun i _ => a.size - (intOf i).toNat)
          case atStart => exact ⟨k, hklt, rfl, hkk, by first | exact ⟨_, rfl⟩ | exact drewN_drewN _ _ _⟩
          case round =>
            clear hd hw hg hk hkk hklt
            obtain ⟨k, hk, rfl, hkk, nq, rfl⟩ := hrel
            have hbi := bt_eq_iff a b k (by omega) (by omega)
            by_cases he : bt a k = bt b k
            · have hkk' := agree_step a b k hkk (hbi.1 he)
              have hklt : k + 1 < a.size := by
                by_cases e : k + 1 = a.size
                · exact absurd (e ▸ hkk') HN.out
                · omega
              have het : (bt a k == bt b k) = true := by simpa using he
              clear hbi he
              go_wp2
              go_quiet (fail)
              go_wp2
              go_roundw
              case rel => exact ⟨k + 1, hklt, by go_num, hkk', _, rfl⟩
              case measure => simp [intOf]; omega
            · have HC : Hid (Cp.cp a.data.toList b.data.toList = k) := Cp.cp_of_part _ _ k hkk (by simp; omega) (by simp; omega) (fun h => he (hbi.2 h))
              have het : (bt a k == bt b k) = false := by simpa using he
              clear hbi he
              go_wp2
              go_quiet (fail)
              go_wp2
              go_ret
              exact ⟨ret_int (by rw [HC.out]), by first | exact ⟨_, rfl⟩ | exact drewN_drewN _ _ _⟩
        · have hd : decide ((k : Int) + 64 ≤ (a.size : Int)) = false := by simp; omega
          go_wp2
          go_quiet (fail)
          go_wp2
          go_loopw [6] (fun i wr => ∃ k : Nat, k < a.size ∧ i = .int .i64 k ∧ Agree a b k ∧ ∃ n, wr = w.drewN n) (fun i _ => a.size - (intOf i).toNat)
          case atStart => exact ⟨k, hklt, rfl, hkk, by first | exact ⟨_, rfl⟩ | exact drewN_drewN _ _ _⟩
          case round =>
            clear hd hw hg hk hkk hklt
            obtain ⟨k, hk, rfl, hkk, nq, rfl⟩ := hrel
            have hbi := bt_eq_iff a b k (by omega) (by omega)
            by_cases he : bt a k = bt b k
            · have hkk' := agree_step a b k hkk (hbi.1 he)
              have hklt : k + 1 < a.size := by
                by_cases e : k + 1 = a.size
                · exact absurd (e ▸ hkk') HN.out
                · omega
              have het : (bt a k == bt b k) = true := by simpa using he
              clear hbi he
              go_wp2
              go_quiet (fail)
              go_wp2
              go_roundw
              case rel => exact ⟨k + 1, hklt, by go_num, hkk', _, rfl⟩
              case measure => simp [intOf]; omega
            · have HC : Hid (Cp.cp a.data.toList b.data.toList = k) := Cp.cp_of_part _ _ k hkk (by simp; omega) (by simp; omega) (fun h => he (hbi.2 h))
              have het : (bt a k == bt b k) = false := by simpa using he
              clear hbi he
              go_wp2
              go_quiet (fail)
              go_wp2
              go_ret
              exact ⟨ret_int (by rw [HC.out]), by first | exact ⟨_, rfl⟩ | exact drewN_drewN _ _ _⟩
/-- 'lists.ZZCommonPrefix' (function 11): hands on. -/
theorem zzCommonPrefix_any (a b : ByteArray) (w : World) (ha : a.size ≤ 1048576) (hb : b.size ≤ 1048576) :
    Calls Try.prog 11 #[.string a, .string b] w fun e w' => e = .returned (.int .i64 (Cp.cp a.data.toList b.data.toList)) ∧ ∃ n, w' = w.drewN n := by
  go_enter Try.func11, Try.ntmps11
  go_wp2_with (go_at_call 25; refine (commonPrefix_any _ _ _ ha hb).mono ?_; rintro e w' ⟨rfl, n, rfl⟩)
  go_ret
  exact ⟨rfl, _, rfl⟩

/-- The same, by what the number is good for. -/
theorem zzCommonPrefix_facts (a b : ByteArray) (w : World) (ha : a.size ≤ 1048576) (hb : b.size ≤ 1048576) :
    Calls Try.prog 11 #[.string a, .string b] w fun e w' => ∃ p n : Nat, e = .returned (.int .i64 p) ∧ p ≤ a.size ∧ p ≤ b.size ∧ (∀ k, k < p → bt a k = bt b k) ∧ (p < a.size → p < b.size → bt a p ≠ bt b p) ∧ w' = w.drewN n := by
  refine (zzCommonPrefix_any a b w ha hb).mono ?_
  rintro e w' ⟨rfl, n, rfl⟩
  have h1 : Cp.cp a.data.toList b.data.toList ≤ a.size := by simpa using Cp.cp_le_left a.data.toList b.data.toList
  have h2 : Cp.cp a.data.toList b.data.toList ≤ b.size := by simpa using Cp.cp_le_right a.data.toList b.data.toList
  refine ⟨_, n, rfl, h1, h2, fun k hk => ?_, fun g1 g2 he => ?_, rfl⟩
  · exact (bt_eq_iff a b k (by omega) (by omega)).2 (Cp.cp_agree _ _ k hk)
  · exact Cp.cp_part a.data.toList b.data.toList (by simpa using g1) (by simpa using g2) ((bt_eq_iff a b _ g1 g2).1 he)
end Go.Proofs.Qxb6003473a
