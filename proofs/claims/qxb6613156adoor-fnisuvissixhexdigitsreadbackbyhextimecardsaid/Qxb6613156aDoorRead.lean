import Derived.Test.Qxb6613156aDoorParse
import Derived.Test.Qxb6613156aDoorFormat
import Derived.Lib.IndexBytes
namespace Go.Proofs.Qxb6613156aDoor
open Go.RowKit Plain
def maxS : ByteArray := ⟨#[102, 102, 102, 102, 102, 102, 102, 102]⟩
theorem maxS_size : maxS.size = 8 := rfl
theorem hexF_max : (⟨(hexF 7 4294967295).toArray⟩ : ByteArray) = maxS := by
  have : hexF 7 4294967295 = [102, 102, 102, 102, 102, 102, 102, 102] := by decide
  rw [this]; rfl
theorem hexTime_max (w : World) (hw4 : 4 < w.heap.size) (ht : w.cell? ⟨4, 15, none⟩ = some (.int .u8 4)) :
    Calls Tryd.prog 15 #[.int .i64 4294967295] w fun e w' => e = .returned (.string maxS) ∧ Below w.heap.size w w' := by
  have h := hexTime_any 4294967295 (by omega) w hw4 ht
  rw [hexF_max] at h
  exact h
theorem mo_parts {s : ByteArray} (h : mo 1 8 s = true) : s.size ≠ 0 ∧ s.size ≤ 8 ∧ allB s.data.toList = true := by
  unfold mo at h
  simp only [Bool.and_eq_true, decide_eq_true_eq] at h
  exact ⟨by omega, by omega, h.2⟩
set_option maxHeartbeats 400000 in
theorem readHexTime_no (s : ByteArray) (hs : s.size ≤ maxLen) (h : mo 1 8 s = false) (w : World) (hw4 : 4 < w.heap.size) (ht : w.cell? ⟨4, 15, none⟩ = some (.int .u8 4)) :
    Calls Tryd.prog 14 #[.string s] w fun e w' => e = .returned (.tuple #[.int .i64 0, .bool false]) ∧ Below w.heap.size w w' := by
  have HF := Lib.hid (hexTime_max w hw4 ht)
  have HS := Lib.hid hs
  have hz := maxS_size
  clear hs ht
  go_enter Tryd.func14, Tryd.ntmps14
  go_wp2_with (first
    | (go_at_call 15; refine HF.out.mono ?_; rintro e w1 ⟨rfl, hb⟩)
    | (go_at_call 18; refine (madeOf_any _ HS.out _ _ _).mono ?_; rintro e w' ⟨rfl, rfl⟩))
  go_ret2
  exact ⟨rfl, hb⟩
set_option maxHeartbeats 400000 in
theorem readHexTime_ok (s : ByteArray) (h : mo 1 8 s = true) (w : World) (hw4 : 4 < w.heap.size) (ht : w.cell? ⟨4, 15, none⟩ = some (.int .u8 4)) :
    Calls Tryd.prog 14 #[.string s] w fun e w' => e = .returned (.tuple #[.int .i64 (hv s.data.toList), .bool true]) ∧ Below w.heap.size w w' := by
  have HF := Lib.hid (hexTime_max w hw4 ht)
  obtain ⟨h0, h8, ha⟩ := mo_parts h
  have HS : Hid (s.size ≤ maxLen) := by unfold Hid maxLen; omega
  have HP : Hid (∀ W : World, Calls Tryd.prog 19 #[.string s, .int .i64 16, .int .i64 64] W fun e w' => e = .returned (.tuple #[.int .i64 (hv s.data.toList), .nilIface]) ∧ Below W.heap.size W w') :=
    fun W => (parseInt_any s h0 h8 ha W).mono fun e w' ⟨he, hw⟩ => ⟨he, by rw [hw]; exact bytesWorld_below W 5 s⟩
  have hz := maxS_size
  clear ht h0 h8 ha
  go_enter Tryd.func14, Tryd.ntmps14
  go_wp2_with (first
    | (go_at_call 15; refine HF.out.mono ?_; rintro e w1 ⟨rfl, hb⟩)
    | (go_at_call 18; refine (madeOf_any _ HS.out _ _ _).mono ?_; rintro e w' ⟨rfl, rfl⟩)
    | (go_at_call 19; refine (HP.out _).mono ?_; rintro e w2 ⟨rfl, hb2⟩))
  go_ret2
  exact ⟨rfl, hb.trans (hb2.mono hb.size)⟩
set_option maxHeartbeats 400000 in
theorem zzreadHexTime_no (s : ByteArray) (hs : s.size ≤ maxLen) (h : mo 1 8 s = false) (w : World) (hw4 : 4 < w.heap.size) (ht : w.cell? ⟨4, 15, none⟩ = some (.int .u8 4)) :
    Calls Tryd.prog 7 #[.string s] w fun e w' => e = .returned (.tuple #[.int .i64 0, .bool false]) ∧ Below w.heap.size w w' := by
  have HF := Lib.hid (readHexTime_no s hs h w hw4 ht)
  go_enter Tryd.func7, Tryd.ntmps7
  go_wp2_with (go_at_call 14; refine HF.out.mono ?_; rintro e w1 ⟨rfl, hb⟩)
  go_ret2
  exact ⟨rfl, hb⟩
set_option maxHeartbeats 400000 in
theorem zzreadHexTime_ok (s : ByteArray) (h : mo 1 8 s = true) (w : World) (hw4 : 4 < w.heap.size) (ht : w.cell? ⟨4, 15, none⟩ = some (.int .u8 4)) :
    Calls Tryd.prog 7 #[.string s] w fun e w' => e = .returned (.tuple #[.int .i64 (hv s.data.toList), .bool true]) ∧ Below w.heap.size w w' := by
  have HF := Lib.hid (readHexTime_ok s h w hw4 ht)
  go_enter Tryd.func7, Tryd.ntmps7
  go_wp2_with (go_at_call 14; refine HF.out.mono ?_; rintro e w1 ⟨rfl, hb⟩)
  go_ret2
  exact ⟨rfl, hb⟩
theorem at_eq (s : ByteArray) (k : Nat) (hk : k < s.size) : s.data.toList[k]'(by rw [← Lib.size_eq]; exact hk) = s[k] := by
  simp [ByteArray.getElem_eq_getElem_data]
theorem ba_of (b : ByteArray) (l : List UInt8) (h : b.data.toList = l) : b = ⟨l.toArray⟩ := by
  subst h; cases b; simp
theorem trim_stop (l : List UInt8) (h : l.length ≤ 1 ∨ ∃ c r, l = c :: r ∧ c ≠ 48) : trim l = l := by
  cases l with
  | nil => rfl
  | cons c r =>
    rcases h with h | ⟨c', r', he, hc⟩
    · have : r = [] := by cases r with
        | nil => rfl
        | cons _ _ => simp at h
      subst this; simp [trim]
    · injection he with h1 h2; subst h1; simp [trim, hc]
theorem trim_go (l : List UInt8) (k : Nat) (hk : k + 1 < l.length) (h : l[k]'(by omega) = 48) : trim (l.drop k) = trim (l.drop (k + 1)) := by
  rw [List.drop_eq_getElem_cons (by omega), h]
  simp [trim]; omega
set_option maxHeartbeats 400000 in
theorem zzTrim_any (s : ByteArray) (hs : s.size ≤ maxLen) (hne : 0 < s.size) (w : World) :
    Calls Tryd.prog 11 #[.string s] w fun e w' => e = .returned (.string ⟨(trim s.data.toList).toArray⟩) ∧ w' = w := by
  unfold maxLen at hs
  go_enter Tryd.func11, Tryd.ntmps11
  go_wp2
  go_loop [3] (fun v => ∃ k : Nat, k < s.size ∧ v = .int .i64 k ∧ Hid (trim s.data.toList = trim (s.data.toList.drop k))) (fun v => s.size - (intOf v).toNat)
  case atStart => exact ⟨0, hne, rfl, rfl⟩
  case round =>
    obtain ⟨k, hk, rfl, hm⟩ := hrel
    by_cases hlt : k + 1 < s.size
    · by_cases hc : s[k].toNat = 48
      · have hc' : ((s[k].toNat : Int) == 48) = true := by simp; omega
        have HN : Hid (trim s.data.toList = trim (s.data.toList.drop (k + 1))) := by
          unfold Hid
          rw [hm.out]
          exact trim_go _ k (by rw [← Lib.size_eq]; exact hlt) (by rw [at_eq s k hk]; exact UInt8.toNat_inj.1 hc)
        clear hc hm
        go_wp2
        go_round
        case rel => exact ⟨k + 1, by omega, by go_num, HN⟩
        case measure => simp [intOf]; omega
      · have hc' : ((s[k].toNat : Int) == 48) = false := by simp; omega
        have HN : Hid ((s.extract k s.size) = ⟨(trim s.data.toList).toArray⟩) := by
          refine ba_of _ _ ?_
          rw [Lib.extract_to_end, hm.out, trim_stop _ (Or.inr ⟨s[k], s.data.toList.drop (k + 1), by rw [← at_eq s k hk]; exact List.drop_eq_getElem_cons _, fun h => hc (by rw [h]; rfl)⟩)]
        clear hc hm
        go_wp2
        go_ret
        exact ⟨by rw [← HN.out]; rfl, rfl⟩
    · have HN : Hid ((s.extract k s.size) = ⟨(trim s.data.toList).toArray⟩) := by
        refine ba_of _ _ ?_
        rw [Lib.extract_to_end, hm.out, trim_stop _ (Or.inl (by rw [List.length_drop, ← Lib.size_eq]; omega))]
      clear hm
      go_wp2
      go_ret
      exact ⟨by rw [← HN.out]; rfl, rfl⟩
end Go.Proofs.Qxb6613156aDoor
