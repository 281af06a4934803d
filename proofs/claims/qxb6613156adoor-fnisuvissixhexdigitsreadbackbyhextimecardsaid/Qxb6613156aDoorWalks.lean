import Derived.Test.Qxb6613156aDoorRows
import Derived.Test.Qxb6613156aDoorPlain
import Derived.WalkKit
import Derived.WalkSpells
import Derived.WalkLawsBesides
import Derived.LoopTactic
import Derived.Outline
import Derived.BigQuiet
import Derived.Deep.QuietTactic
namespace Go.Proofs.Qxb6613156aDoor
open Go.RowKit Plain
theorem ret_int {k : IntKind} {a b : Int} (h : a = b) : Ending.returned (.int k a) = .returned (.int k b) := by rw [h]
theorem ret_bool {a b : Bool} (h : a = b) : Ending.returned (.bool a) = .returned (.bool b) := by rw [h]
def digB (c : Int) : Bool := decide (48 ≤ c ∧ c ≤ 57)

set_option maxHeartbeats 400000 in
theorem isDigit_any (c : Int) (w : World) :
    Calls Tryd.prog 17 #[.int .u8 c] w fun e w' => e = .returned (.bool (digB c)) ∧ w' = w := by
  go_enter Tryd.func17, Tryd.ntmps17
  go_wp2
  all_goals go_ret
  · exact ⟨ret_bool (by unfold digB; simp_all), rfl⟩
  · exact ⟨ret_bool (by unfold digB; simp; omega), rfl⟩
theorem lhex_of {c : Int} (h : digB c = false) : lhex c = decide (97 ≤ c ∧ c ≤ 102) := by
  unfold digB at h; unfold lhex; simp only [decide_eq_false_iff_not] at h; simp [h]
theorem lhex_dig {c : Int} (h : digB c = true) : lhex c = true := by
  unfold digB at h; unfold lhex; simp only [decide_eq_true_eq] at h; simp [h]
set_option maxHeartbeats 400000 in
theorem isLowerHex_any (c : Int) (w : World) :
    Calls Tryd.prog 13 #[.int .u8 c] w fun e w' => e = .returned (.bool (lhex c)) ∧ w' = w := by
  by_cases hd : digB c = true
  · have hl := lhex_dig hd
    go_enter Tryd.func13, Tryd.ntmps13
    go_wp2_with (go_at_call 17; refine (isDigit_any _ _).mono ?_; rintro e w' ⟨rfl, rfl⟩)
    go_ret
    exact ⟨ret_bool (by simp_all), rfl⟩
  · have hd' : digB c = false := by simpa using hd
    have hl : Hid (lhex c = decide (97 ≤ c ∧ c ≤ 102)) := lhex_of hd'
    clear hd
    go_enter Tryd.func13, Tryd.ntmps13
    go_wp2_with (go_at_call 17; refine (isDigit_any _ _).mono ?_; rintro e w' ⟨rfl, rfl⟩)
    all_goals go_ret
    · exact ⟨ret_bool (by rw [hl.out]; simp_all), rfl⟩
    · exact ⟨ret_bool (by rw [hl.out]; simp; omega), rfl⟩
set_option maxHeartbeats 400000 in
theorem zzDigit_any (v : Int) (h0 : 0 ≤ v) (h1 : v < 16) (w : World) :
    Calls Tryd.prog 12 #[.int .i64 v] w fun e w' => e = .returned (.int .u8 (dig v)) ∧ w' = w := by
  go_enter Tryd.func12, Tryd.ntmps12
  go_wp2
  all_goals go_ret
  · exact ⟨ret_int (by unfold dig; rw [if_pos (by assumption)]), rfl⟩
  · exact ⟨ret_int (by unfold dig; rw [if_neg (by omega)]; omega), rfl⟩
set_option maxHeartbeats 400000 in
theorem zzNibble_any (c : Int) (w : World) :
    Calls Tryd.prog 5 #[.int .u8 c] w fun e w' => e = .returned (.int .i64 (nib c)) ∧ w' = w := by
  go_enter Tryd.func5, Tryd.ntmps5
  go_wp2
  go_loop [3] (fun v => ∃ k : Nat, k ≤ 16 ∧ v = .int .i64 k ∧ Hid (∀ j : Nat, j < k → dig j ≠ c)) (fun v => 16 - (intOf v).toNat)
  case atStart => exact ⟨0, Nat.zero_le _, rfl, fun j h => absurd h (Nat.not_lt_zero j)⟩
  case round =>
    obtain ⟨k, hk, rfl, hm⟩ := hrel
    by_cases hlt : k < 16
    · by_cases hc : dig k = c
      · have hn : Hid ((k : Int) = nib c) := nib_hit c k (by omega) (by omega) hc
        have hc' : (dig k == c) = true := by simpa using hc
        clear hc hm
        go_wp2_with (go_at_call 12; refine (zzDigit_any _ (by omega) (by omega) _).mono ?_; rintro e w' ⟨rfl, rfl⟩)
        go_ret
        exact ⟨ret_int hn.out, rfl⟩
      · have hc' : (dig k == c) = false := by simpa using hc
        have hm' : Hid (∀ j : Nat, j < k + 1 → dig j ≠ c) := fun j hj => by
          by_cases e : j = k
          · subst e; exact hc
          · exact hm.out j (by omega)
        clear hc hm
        go_wp2_with (go_at_call 12; refine (zzDigit_any _ (by omega) (by omega) _).mono ?_; rintro e w' ⟨rfl, rfl⟩)
        go_round
        case rel => exact ⟨k + 1, by omega, by go_num, hm'⟩
        case measure => simp [intOf]; omega
    · have hn : Hid (-1 = nib c) := nib_miss c (fun j hj => hm.out j (by omega))
      clear hm
      go_wp2
      go_ret
      exact ⟨ret_int hn.out, rfl⟩
theorem nib_lt {c : Int} (h : lhex c = false) : nib c < 0 := by
  have := nib_neg c; rw [h] at this; simpa using this
theorem nib_ge {c : Int} (h : lhex c = true) : 0 ≤ nib c := by
  have := nib_neg c; rw [h] at this; simp at this; omega
/-- what madeOf(s, lo, hi, isLowerHex) answers -/
def mo (lo hi : Int) (s : ByteArray) : Bool := decide (lo ≤ s.size ∧ s.size ≤ hi) && allB s.data.toList
theorem mo_no {lo hi : Int} {s : ByteArray} (h : ¬ (lo ≤ (s.size : Int) ∧ (s.size : Int) ≤ hi)) : mo lo hi s = false := by
  unfold mo; rw [decide_eq_false h]; rfl
theorem mo_bad {lo hi : Int} {s : ByteArray} (k : Nat) (hk : k < s.size) (h : lhex s[k].toNat = false) : mo lo hi s = false := by
  unfold mo allB
  have h1 : s.data.toList.all hexB = false := by
    rw [List.all_eq_false]
    exact ⟨s[k], by simp [ByteArray.getElem_eq_getElem_data], by unfold hexB; simp [h]⟩
  rw [h1]; simp
theorem mo_all {lo hi : Int} {s : ByteArray} (h6 : lo ≤ (s.size : Int) ∧ (s.size : Int) ≤ hi) (h : ∀ k (hk : k < s.size), lhex (s[k]'hk).toNat = true) : mo lo hi s = true := by
  unfold mo allB
  have h1 : s.data.toList.all hexB = true := by
    rw [List.all_eq_true]
    intro c hc
    obtain ⟨k, hk, rfl⟩ := List.getElem_of_mem hc
    exact h k (by simpa using hk)
  rw [h1, decide_eq_true h6]; rfl
set_option maxHeartbeats 1000000 in
theorem madeOf_any (s : ByteArray) (hs : s.size ≤ maxLen) (lo hi : Int) (w : World) :
    Calls Tryd.prog 18 #[.string s, .int .i64 lo, .int .i64 hi, .func (.func 13) #[] #[]] w fun e w' => e = .returned (.bool (mo lo hi s)) ∧ w' = w := by
  unfold maxLen at hs
  by_cases h5 : (s.size : Int) < lo
  · have hu : Hid (mo lo hi s = false) := mo_no (by omega)
    go_enter Tryd.func18, Tryd.ntmps18
    go_wp2
    go_ret
    exact ⟨ret_bool hu.out.symm, rfl⟩
  · by_cases h7 : hi < (s.size : Int)
    · have hu : Hid (mo lo hi s = false) := mo_no (by omega)
      go_enter Tryd.func18, Tryd.ntmps18
      go_wp2
      go_ret
      exact ⟨ret_bool hu.out.symm, rfl⟩
    · have h6' : Hid (lo ≤ (s.size : Int) ∧ (s.size : Int) ≤ hi) := ⟨by omega, by omega⟩
      go_enter Tryd.func18, Tryd.ntmps18
      go_wp2
      go_loop [9] (fun v => ∃ k : Nat, k ≤ s.size ∧ v = .int .i64 k ∧ Hid (∀ j (hj : j < s.size), j < k → lhex (s[j]'hj).toNat = true)) (fun v => s.size - (intOf v).toNat)
      case atStart => exact ⟨0, Nat.zero_le _, rfl, fun j _ h => absurd h (Nat.not_lt_zero j)⟩
      case round =>
        obtain ⟨k, hk, rfl, hm⟩ := hrel
        by_cases hlt : k < s.size
        · cases hc : lhex s[k].toNat with
          | true =>
            have hm' : Hid (∀ j (hj : j < s.size), j < k + 1 → lhex (s[j]'hj).toNat = true) := fun j hj hjk => by
              by_cases e : j = k
              · subst e; exact hc
              · exact hm.out j hj (by omega)
            clear hm
            go_wp2_with (go_at_call 13; refine (isLowerHex_any _ _).mono ?_; rintro e w' ⟨rfl, rfl⟩)
            go_round
            case rel => exact ⟨k + 1, by omega, by go_num, hm'⟩
            case measure => simp [intOf]; omega
          | false =>
            have hu : Hid (mo lo hi s = false) := mo_bad k hlt hc
            clear hm
            go_wp2_with (go_at_call 13; refine (isLowerHex_any _ _).mono ?_; rintro e w' ⟨rfl, rfl⟩)
            go_ret
            exact ⟨ret_bool hu.out.symm, rfl⟩
        · have hu : Hid (mo lo hi s = true) := mo_all h6'.out (fun j hj => hm.out j hj (by omega))
          clear hm
          go_wp2
          go_ret
          exact ⟨ret_bool hu.out.symm, rfl⟩
set_option maxHeartbeats 400000 in
theorem isUv_any (s : ByteArray) (hs : s.size ≤ maxLen) (w : World) :
    Calls Tryd.prog 16 #[.string s] w fun e w' => e = .returned (.bool (mo 6 6 s)) ∧ w' = w := by
  go_enter Tryd.func16, Tryd.ntmps16
  go_wp2_with (go_at_call 18; refine (madeOf_any _ hs _ _ _).mono ?_; rintro e w' ⟨rfl, rfl⟩)
  go_ret
  exact ⟨rfl, rfl⟩
set_option maxHeartbeats 400000 in
theorem zzisUv_any (s : ByteArray) (hs : s.size ≤ maxLen) (w : World) :
    Calls Tryd.prog 10 #[.string s] w fun e w' => e = .returned (.bool (mo 6 6 s)) ∧ w' = w := by
  go_enter Tryd.func10, Tryd.ntmps10
  go_wp2_with (go_at_call 16; refine (isUv_any _ hs _).mono ?_; rintro e w' ⟨rfl, rfl⟩)
  go_ret
  exact ⟨rfl, rfl⟩
set_option maxHeartbeats 400000 in
theorem zzisLowerHex_any (c : Int) (w : World) :
    Calls Tryd.prog 6 #[.int .u8 c] w fun e w' => e = .returned (.bool (lhex c)) ∧ w' = w := by
  go_enter Tryd.func6, Tryd.ntmps6
  go_wp2_with (go_at_call 13; refine (isLowerHex_any _ _).mono ?_; rintro e w' ⟨rfl, rfl⟩)
  go_ret
  exact ⟨rfl, rfl⟩
set_option maxHeartbeats 400000 in
theorem zzBytes_any (s : ByteArray) (hs : s.size ≤ maxLen) (w : World) :
    Calls Tryd.prog 9 #[.string s] w fun e w' => e = .returned (.bool (decide (s.size ≤ 1048576))) ∧ w' = w := by
  unfold maxLen at hs
  by_cases h : s.size ≤ 1048576
  · go_enter Tryd.func9, Tryd.ntmps9
    go_wp2
    go_ret
    exact ⟨ret_bool (by simp [h]), rfl⟩
  · go_enter Tryd.func9, Tryd.ntmps9
    go_wp2
    go_ret
    exact ⟨ret_bool (by simp; omega), rfl⟩
end Go.Proofs.Qxb6613156aDoor
