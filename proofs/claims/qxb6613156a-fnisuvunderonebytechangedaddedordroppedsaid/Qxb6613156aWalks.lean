import Derived.Test.Qxb6613156aRows
import Derived.Test.Qxb6613156aPlain
import Derived.WalkKit
import Derived.WalkSpells
import Derived.WalkLawsBesides
import Derived.LoopTactic
import Derived.Outline
import Derived.BigQuiet
import Derived.Deep.QuietTactic
namespace Go.Proofs.Qxb6613156a
open Go.RowKit Plain
theorem ret_int {k : IntKind} {a b : Int} (h : a = b) : Ending.returned (.int k a) = .returned (.int k b) := by rw [h]
theorem ret_bool {a b : Bool} (h : a = b) : Ending.returned (.bool a) = .returned (.bool b) := by rw [h]
def digB (c : Int) : Bool := decide (48 ≤ c ∧ c ≤ 57)

set_option maxHeartbeats 400000 in
theorem isDigit_any (c : Int) (w : World) :
    Calls Try.prog 13 #[.int .u8 c] w fun e w' => e = .returned (.bool (digB c)) ∧ w' = w := by
  go_enter Try.func13, Try.ntmps13
  go_wp2
  all_goals go_ret
  · exact ⟨ret_bool (by unfold digB; simp_all), rfl⟩
  · exact ⟨ret_bool (by unfold digB; simp; omega), rfl⟩
theorem lhex_of {c : Int} (h : digB c = false) : lhex c = decide (97 ≤ c ∧ c ≤ 102) := by
  unfold digB at h; unfold lhex; simp only [decide_eq_false_iff_not] at h; simp [h]
theorem lhex_dig {c : Int} (h : digB c = true) : lhex c = true := by
  unfold digB at h; unfold lhex; simp only [decide_eq_true_eq] at h; simp [h]
set_option maxHeartbeats 400000 in
theorem isLowerHex_any (c : Int) (w : World) :
    Calls Try.prog 10 #[.int .u8 c] w fun e w' => e = .returned (.bool (lhex c)) ∧ w' = w := by
  by_cases hd : digB c = true
  · have hl := lhex_dig hd
    go_enter Try.func10, Try.ntmps10
    go_wp2_with (go_at_call 13; refine (isDigit_any _ _).mono ?_; rintro e w' ⟨rfl, rfl⟩)
    go_ret
    exact ⟨ret_bool (by simp_all), rfl⟩
  · have hd' : digB c = false := by simpa using hd
    have hl : Hid (lhex c = decide (97 ≤ c ∧ c ≤ 102)) := lhex_of hd'
    clear hd
    go_enter Try.func10, Try.ntmps10
    go_wp2_with (go_at_call 13; refine (isDigit_any _ _).mono ?_; rintro e w' ⟨rfl, rfl⟩)
    all_goals go_ret
    · exact ⟨ret_bool (by rw [hl.out]; simp_all), rfl⟩
    · exact ⟨ret_bool (by rw [hl.out]; simp; omega), rfl⟩
set_option maxHeartbeats 400000 in
theorem zzDigit_any (v : Int) (h0 : 0 ≤ v) (h1 : v < 16) (w : World) :
    Calls Try.prog 12 #[.int .i64 v] w fun e w' => e = .returned (.int .u8 (dig v)) ∧ w' = w := by
  go_enter Try.func12, Try.ntmps12
  go_wp2
  all_goals go_ret
  · exact ⟨ret_int (by unfold dig; rw [if_pos (by assumption)]), rfl⟩
  · exact ⟨ret_int (by unfold dig; rw [if_neg (by omega)]; omega), rfl⟩
set_option maxHeartbeats 400000 in
theorem zzNibble_any (c : Int) (w : World) :
    Calls Try.prog 9 #[.int .u8 c] w fun e w' => e = .returned (.int .i64 (nib c)) ∧ w' = w := by
  go_enter Try.func9, Try.ntmps9
  go_wp2
  go_loop [3] (fun v => ∃ k : Nat, k ≤ 16 ∧ v = .int .i64 k ∧ Hid (∀ j : Nat, j < k → dig j ≠ c)) (fun v => 16 - (intOf v).toNat)
  case atStart => exact ⟨0, Nat.zero_le _, rfl, fun j h => absurd h (Nat.not_lt_zero j)⟩
  case round =>
    obtain ⟨k, hk, rfl, hm⟩ := hrel
    by_cases hlt : k < 16
    · by_cases hc : dig k = c
      · have hn : Hid ((k : Int) = nib c) := nib_hit c k (by omega) (by omega) hc
        have hc' : (dig k == c) = true := by simpa using hc
        clear hc hm
        go_wp2_with (go_at_call 12; refine (zzDigit_any _ (by omega) (by omega) _).mono ?_; rintro e w' ⟨rfl, rfl⟩)
        go_ret
        exact ⟨ret_int hn.out, rfl⟩
      · have hc' : (dig k == c) = false := by simpa using hc
        have hm' : Hid (∀ j : Nat, j < k + 1 → dig j ≠ c) := fun j hj => by
          by_cases e : j = k
          · subst e; exact hc
          · exact hm.out j (by omega)
        clear hc hm
        go_wp2_with (go_at_call 12; refine (zzDigit_any _ (by omega) (by omega) _).mono ?_; rintro e w' ⟨rfl, rfl⟩)
        go_round
        case rel => exact ⟨k + 1, by omega, by go_num, hm'⟩
        case measure => simp [intOf]; omega
    · have hn : Hid (-1 = nib c) := nib_miss c (fun j hj => hm.out j (by omega))
      clear hm
      go_wp2
      go_ret
      exact ⟨ret_int hn.out, rfl⟩
def uvB (s : ByteArray) : Bool := uvL s.data.toList
theorem six_no {s : ByteArray} (h : ¬ s.size = 6) : uvB s = false := by
  unfold uvB uvL
  have : s.data.toList.length = s.size := rfl
  rw [this]; simp [h]
theorem six_bad {s : ByteArray} (k : Nat) (hk : k < s.size) (h : lhex s[k].toNat = false) : uvB s = false := by
  unfold uvB uvL allB
  have h1 : s.data.toList.all hexB = false := by
    rw [List.all_eq_false]
    exact ⟨s[k], by simp [ByteArray.getElem_eq_getElem_data], by unfold hexB; simp [h]⟩
  rw [h1]; simp
theorem six_all {s : ByteArray} (h6 : s.size = 6) (h : ∀ k (hk : k < s.size), lhex (s[k]'hk).toNat = true) : uvB s = true := by
  unfold uvB uvL allB
  have h1 : s.data.toList.all hexB = true := by
    rw [List.all_eq_true]
    intro c hc
    obtain ⟨k, hk, rfl⟩ := List.getElem_of_mem hc
    exact h k (by simpa using hk)
  rw [h1]
  have : s.data.toList.length = s.size := rfl
  rw [this]; simp [h6]
set_option maxHeartbeats 400000 in
theorem madeOf_any (s : ByteArray) (hs : s.size ≤ maxLen) (w : World) :
    Calls Try.prog 11 #[.string s, .int .i64 6, .int .i64 6, .func (.func 10) #[] #[]] w fun e w' => e = .returned (.bool (uvB s)) ∧ w' = w := by
  unfold maxLen at hs
  by_cases h6 : s.size = 6
  · have h6' : Hid (s.size = 6) := h6
    have h6a : ¬ s.size < 6 := by omega
    have h6b : ¬ 6 < s.size := by omega
    clear h6
    go_enter Try.func11, Try.ntmps11
    go_wp2
    go_loop [9] (fun v => ∃ k : Nat, k ≤ s.size ∧ v = .int .i64 k ∧ Hid (∀ j (hj : j < s.size), j < k → lhex (s[j]'hj).toNat = true)) (fun v => s.size - (intOf v).toNat)
    case atStart => exact ⟨0, Nat.zero_le _, rfl, fun j _ h => absurd h (Nat.not_lt_zero j)⟩
    case round =>
      obtain ⟨k, hk, rfl, hm⟩ := hrel
      by_cases hlt : k < s.size
      · cases hc : lhex s[k].toNat with
        | true =>
          have hm' : Hid (∀ j (hj : j < s.size), j < k + 1 → lhex (s[j]'hj).toNat = true) := fun j hj hjk => by
            by_cases e : j = k
            · subst e; exact hc
            · exact hm.out j hj (by omega)
          clear hm
          go_wp2_with (go_at_call 10; refine (isLowerHex_any _ _).mono ?_; rintro e w' ⟨rfl, rfl⟩)
          go_round
          case rel => exact ⟨k + 1, by omega, by go_num, hm'⟩
          case measure => simp [intOf]; omega
        | false =>
          have hu : Hid (uvB s = false) := six_bad k hlt hc
          clear hm
          go_wp2_with (go_at_call 10; refine (isLowerHex_any _ _).mono ?_; rintro e w' ⟨rfl, rfl⟩)
          go_ret
          exact ⟨ret_bool hu.out.symm, rfl⟩
      · have hu : Hid (uvB s = true) := six_all h6'.out (fun j hj => hm.out j hj (by omega))
        clear hm
        go_wp2
        go_ret
        exact ⟨ret_bool hu.out.symm, rfl⟩
  · have hu : Hid (uvB s = false) := six_no h6
    by_cases h5 : s.size < 6
    · go_enter Try.func11, Try.ntmps11
      go_wp2
      go_ret
      exact ⟨ret_bool hu.out.symm, rfl⟩
    · have h7 : 6 < s.size := by omega
      go_enter Try.func11, Try.ntmps11
      go_wp2
      go_ret
      exact ⟨ret_bool hu.out.symm, rfl⟩
set_option maxHeartbeats 400000 in
theorem isUv_any (s : ByteArray) (hs : s.size ≤ maxLen) (w : World) :
    Calls Try.prog 8 #[.string s] w fun e w' => e = .returned (.bool (uvB s)) ∧ w' = w := by
  go_enter Try.func8, Try.ntmps8
  go_wp2_with (go_at_call 11; refine (madeOf_any _ hs _).mono ?_; rintro e w' ⟨rfl, rfl⟩)
  go_ret
  exact ⟨rfl, rfl⟩
set_option maxHeartbeats 400000 in
theorem zzisUv_any (s : ByteArray) (hs : s.size ≤ maxLen) (w : World) :
    Calls Try.prog 5 #[.string s] w fun e w' => e = .returned (.bool (uvB s)) ∧ w' = w := by
  go_enter Try.func5, Try.ntmps5
  go_wp2_with (go_at_call 8; refine (isUv_any _ hs _).mono ?_; rintro e w' ⟨rfl, rfl⟩)
  go_ret
  exact ⟨rfl, rfl⟩
set_option maxHeartbeats 400000 in
theorem zzisLowerHex_any (c : Int) (w : World) :
    Calls Try.prog 7 #[.int .u8 c] w fun e w' => e = .returned (.bool (lhex c)) ∧ w' = w := by
  go_enter Try.func7, Try.ntmps7
  go_wp2_with (go_at_call 10; refine (isLowerHex_any _ _).mono ?_; rintro e w' ⟨rfl, rfl⟩)
  go_ret
  exact ⟨rfl, rfl⟩
theorem nib_lt {c : Int} (h : lhex c = false) : nib c < 0 := by
  have := nib_neg c; rw [h] at this; simpa using this
theorem nib_ge {c : Int} (h : lhex c = true) : 0 ≤ nib c := by
  have := nib_neg c; rw [h] at this; simp at this; omega
set_option maxHeartbeats 400000 in
theorem zzIsSixHex_any (s : ByteArray) (hs : s.size ≤ maxLen) (w : World) :
    Calls Try.prog 6 #[.string s] w fun e w' => e = .returned (.bool (uvB s)) ∧ w' = w := by
  unfold maxLen at hs
  by_cases h6 : s.size = 6
  · have h6' : Hid (s.size = 6) := h6
    have h6a : ¬ s.size < 6 := by omega
    have h6b : ¬ 6 < s.size := by omega
    have h6c : ((s.size : Int) != 6) = false := by simp; omega
    clear h6
    go_enter Try.func6, Try.ntmps6
    go_wp2
    go_loop [3] (fun v => ∃ k : Nat, k ≤ s.size ∧ v = .int .i64 k ∧ Hid (∀ j (hj : j < s.size), j < k → lhex (s[j]'hj).toNat = true)) (fun v => s.size - (intOf v).toNat)
    case atStart => exact ⟨0, Nat.zero_le _, rfl, fun j _ h => absurd h (Nat.not_lt_zero j)⟩
    case round =>
      obtain ⟨k, hk, rfl, hm⟩ := hrel
      by_cases hlt : k < s.size
      · cases hc : lhex s[k].toNat with
        | true =>
          have hm' : Hid (∀ j (hj : j < s.size), j < k + 1 → lhex (s[j]'hj).toNat = true) := fun j hj hjk => by
            by_cases e : j = k
            · subst e; exact hc
            · exact hm.out j hj (by omega)
          have hn : ¬ nib s[k].toNat < 0 := by have := nib_ge hc; omega
          clear hm
          go_wp2_with (go_at_call 9; refine (zzNibble_any _ _).mono ?_; rintro e w' ⟨rfl, rfl⟩)
          go_round
          case rel => exact ⟨k + 1, by omega, by go_num, hm'⟩
          case measure => simp [intOf]; omega
        | false =>
          have hu : Hid (uvB s = false) := six_bad k hlt hc
          have hn : nib s[k].toNat < 0 := nib_lt hc
          clear hm
          go_wp2_with (go_at_call 9; refine (zzNibble_any _ _).mono ?_; rintro e w' ⟨rfl, rfl⟩)
          go_ret
          exact ⟨ret_bool hu.out.symm, rfl⟩
      · have hu : Hid (uvB s = true) := six_all h6'.out (fun j hj => hm.out j hj (by omega))
        clear hm
        go_wp2
        go_ret
        exact ⟨ret_bool hu.out.symm, rfl⟩
  · have hu : Hid (uvB s = false) := six_no h6
    have h6c : ((s.size : Int) != 6) = true := by simp; omega
    clear h6
    go_enter Try.func6, Try.ntmps6
    go_wp2
    go_ret
    exact ⟨ret_bool hu.out.symm, rfl⟩
set_option maxHeartbeats 400000 in
theorem zzBytes_any (s : ByteArray) (hs : s.size ≤ maxLen) (k c : Int) (w : World) :
    Calls Try.prog 4 #[.string s, .int .i64 k, .int .u8 c] w fun e w' => e = .returned (.bool (decide (s.size ≤ 1048576))) ∧ w' = w := by
  unfold maxLen at hs
  by_cases h : s.size ≤ 1048576
  · go_enter Try.func4, Try.ntmps4
    go_wp2
    go_ret
    exact ⟨ret_bool (by simp [h]), rfl⟩
  · go_enter Try.func4, Try.ntmps4
    go_wp2
    go_ret
    exact ⟨ret_bool (by simp; omega), rfl⟩
end Go.Proofs.Qxb6613156a
