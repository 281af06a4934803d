import Derived.Test.Qxb6613156aDoorRead
namespace Go.Proofs.Qxb6613156aDoor
open Go.RowKit Plain
def TabOK (w : World) : Prop := 4 < w.heap.size ∧ w.cell? ⟨4, 15, none⟩ = some (.int .u8 4)
theorem TabOK.below {w w' : World} (h : TabOK w) (hb : Below w.heap.size w w') : TabOK w' :=
  ⟨Nat.lt_of_lt_of_le h.1 hb.size, by rw [hb.cell (p := ⟨4, 15, none⟩) h.1]; exact h.2⟩
theorem TabOK.alloc {w : World} (h : TabOK w) (o : Obj) : TabOK (w.alloc o) := h.below ((Below.refl _ _).alloc (Nat.le_refl _) _)
theorem conv_one (c : UInt8) (W : World) : (convert 24 9 (.slice (some ⟨W.heap.size, 0, none⟩) 1 1)).run Tryd.prog (W.alloc (.cells #[.int .u8 c.toNat] 5)) = .ok (.string ⟨#[c]⟩) (W.alloc (.cells #[.int .u8 c.toNat] 5)) := by
  refine run_convert_bytes_back (W.alloc (.cells #[.int .u8 c.toNat] 5)) 24 9 5 ⟨W.heap.size, 0, none⟩ 1 [c] Tryd.underlying24 Tryd.underlying5 Tryd.underlying9 ?_
  intro j hj
  have : j = 0 := by simp at hj; omega
  subst this
  exact World.cell?_alloc_mark W #[.int .u8 c.toNat] 5 (0, 0) 0
def oneS (c : UInt8) : ByteArray := ⟨#[c]⟩
theorem oneS_eq (c : UInt8) : (⟨#[c]⟩ : ByteArray) = oneS c := rfl
theorem mo_one (c : UInt8) : mo 1 8 (oneS c) = lhex c.toNat := by
  have h1 : ((oneS c).size : Int) = 1 := rfl
  have h2 : (oneS c).data.toList = [c] := rfl
  unfold mo; rw [h1, h2]; simp [allB, hexB]
theorem one_max (c : UInt8) : (oneS c).size ≤ maxLen := by have : (oneS c).size = 1 := rfl; unfold maxLen; omega
theorem read_no (c : UInt8) (h : lhex c.toNat = false) (w : World) (hT : TabOK w) :
    Calls Tryd.prog 7 #[.string (oneS c)] w fun e w' => e = .returned (.tuple #[.int .i64 0, .bool false]) ∧ Below w.heap.size w w' :=
  zzreadHexTime_no (oneS c) (one_max c) (by rw [mo_one]; exact h) w hT.1 hT.2
theorem read_ok (c : UInt8) (h : lhex c.toNat = true) (w : World) (hT : TabOK w) :
    Calls Tryd.prog 7 #[.string (oneS c)] w fun e w' => e = .returned (.tuple #[.int .i64 (nib c.toNat), .bool true]) ∧ Below w.heap.size w w' := by
  have h1 := zzreadHexTime_ok (oneS c) (by rw [mo_one]; exact h) w hT.1 hT.2
  have h2 : ((hv (oneS c).data.toList : Nat) : Int) = nib c.toNat := by
    have : hv (oneS c).data.toList = (nib c.toNat).toNat := by show hv [c] = _; simp [hv]
    rw [this]; have := nib_ge h; omega
  rw [h2] at h1
  exact h1
theorem write_ok (c : UInt8) (h : lhex c.toNat = true) (w : World) (hT : TabOK w) :
    Calls Tryd.prog 8 #[.int .i64 (nib c.toNat)] w fun e w' => e = .returned (.string (oneS c)) ∧ Below w.heap.size w w' := by
  have hn := nib_hex (c := c) h
  have h1 := zzhexTime_any (nib c.toNat).toNat (by omega) w hT.1 hT.2
  have h2 : (((nib c.toNat).toNat : Nat) : Int) = nib c.toNat := by omega
  have h3 : (⟨(hexF 7 (nib c.toNat).toNat).toArray⟩ : ByteArray) = oneS c := by
    rw [hexF_small 7 _ (by omega), dg_nib h]; rfl
  rw [h2, h3] at h1
  exact h1
set_option maxHeartbeats 1000000 in
theorem main3 (c : UInt8) (w : World) (hT : TabOK w) :
    Calls Tryd.prog 3 #[.int .u8 c.toNat] w fun e w' => e = .returned (.bool true) ∧ Below w.heap.size w w' := by
  have hcv := conv_one c
  rw [oneS_eq] at hcv
  cases hl : lhex c.toNat with
  | false =>
    have hn : nib c.toNat < 0 := nib_lt hl
    have HR : Hid (∀ W, TabOK W → Calls Tryd.prog 7 #[.string (oneS c)] W fun e w' => e = .returned (.tuple #[.int .i64 0, .bool false]) ∧ Below W.heap.size W w') := fun W h => read_no c hl W h
    have HT := Lib.hid hT
    clear hT
    go_enter Tryd.func3, Tryd.ntmps3
    go_wp2_with (first
      | (go_at_call 5; refine (zzNibble_any _ _).mono ?_; rintro e w' ⟨rfl, rfl⟩)
      | (go_at_call 6; refine (zzisLowerHex_any _ _).mono ?_; rintro e w' ⟨rfl, rfl⟩)
      | (go_at_call 7; refine (HR.out _ (by exact HT.out.alloc _)).mono ?_; rintro e w1 ⟨rfl, hb⟩))
    go_ret
    exact ⟨rfl, ((Below.refl _ _).alloc (Nat.le_refl _) _).trans (hb.mono (by simp))⟩
  | true =>
    have hn : 0 ≤ nib c.toNat := nib_ge hl
    have HR : Hid (∀ W, TabOK W → Calls Tryd.prog 7 #[.string (oneS c)] W fun e w' => e = .returned (.tuple #[.int .i64 (nib c.toNat), .bool true]) ∧ Below W.heap.size W w') := fun W h => read_ok c hl W h
    have HW : Hid (∀ W, TabOK W → Calls Tryd.prog 8 #[.int .i64 (nib c.toNat)] W fun e w' => e = .returned (.string (oneS c)) ∧ Below W.heap.size W w') := fun W h => write_ok c hl W h
    have HT := Lib.hid hT
    clear hT
    go_enter Tryd.func3, Tryd.ntmps3
    go_wp2_with (first
      | (go_at_call 5; refine (zzNibble_any _ _).mono ?_; rintro e w' ⟨rfl, rfl⟩)
      | (go_at_call 6; refine (zzisLowerHex_any _ _).mono ?_; rintro e w' ⟨rfl, rfl⟩)
      | (go_at_call 7; refine (HR.out _ (by exact HT.out.alloc _)).mono ?_; rintro e w1 ⟨rfl, hb⟩)
      | (go_at_call 8; refine (HW.out _ (by exact (HT.out.alloc _).below hb)).mono ?_; rintro e w2 ⟨rfl, hb2⟩))
    go_ret
    exact ⟨rfl, ((Below.refl _ _).alloc (Nat.le_refl _) _).trans ((hb.trans (hb2.mono hb.size)).mono (by simp))⟩
theorem hv_bd (l : List UInt8) (k : Nat) (hk : k ≤ 6) (hl : k ≤ l.length) (ha : ∀ j (h : j < l.length), j < k → hexB (l[j]'h) = true) : hv (l.take k) < 16777216 := by
  have h := hv_lt (l.take k) (by
    unfold allB; rw [List.all_eq_true]
    intro x hx
    obtain ⟨j, hj, rfl⟩ := List.getElem_of_mem hx
    rw [List.getElem_take]
    exact ha j _ (by simp at hj; omega))
  rw [List.length_take, Nat.min_eq_left hl] at h
  exact Nat.lt_of_lt_of_le h (Nat.le_trans (Nat.pow_le_pow_right (by omega) hk) (by decide))
set_option maxHeartbeats 2000000 in
theorem main4_six (s : ByteArray) (h6 : s.size = 6) (w : World) (hT : TabOK w) :
    Calls Tryd.prog 4 #[.string s] w fun e w' => e = .returned (.bool true) ∧ Below w.heap.size w w' := by
  have HS : Hid (s.size ≤ maxLen) := by unfold Hid maxLen; omega
  have H6 := Lib.hid h6
  have g1 : s.size ≤ 6 := by omega
  have g2 : 6 ≤ s.size := by omega
  have h20 : decide (s.size ≤ 1048576) = true := by simp; omega
  have h6e : ((s.size : Int) == 6) = true := by simp; omega
  have HT := Lib.hid hT
  clear hT h6
  have hLn : Hid (s.data.toList.length = s.size) := (Lib.size_eq s).symm
  go_enter Tryd.func4, Tryd.ntmps4
  go_wp2_with (first
    | (go_at_call 9; refine (zzBytes_any _ HS.out _).mono ?_; rintro e w' ⟨rfl, rfl⟩))
  go_loop [3, 4, 5] (fun vw vv vi => ∃ (k : Nat) (a : Int) (b : Bool), vw = .bool b ∧ vv = .int .i64 a ∧ vi = .int .i64 k ∧ k ≤ s.size ∧ Hid (b = true → a = (hv (s.data.toList.take k) : Int) ∧ ∀ j (h : j < s.data.toList.length), j < k → hexB (s.data.toList[j]'h) = true) ∧ Hid (b = false → mo 6 6 s = false))
    (fun vw _ vi => s.size - (intOf vi).toNat)
  case atStart => exact ⟨0, 0, true, rfl, rfl, rfl, by omega, fun _ => ⟨rfl, fun j _ h => absurd h (Nat.not_lt_zero j)⟩, fun h => absurd h (by decide)⟩
  case round =>
    obtain ⟨k, a, b, rfl, rfl, rfl, hk, hh, hno⟩ := hrel
    cases b with
    | false =>
      have hmo := hno.out rfl
      clear hh hno
      by_cases hlt : k < s.size
      all_goals
        go_wp2_with (first
          | (go_at_call 10; refine (zzisUv_any _ HS.out _).mono ?_; rintro e w' ⟨rfl, rfl⟩))
        go_ret
        exact ⟨rfl, Below.refl _ _⟩
    | true =>
      obtain ⟨ha, hall⟩ := hh.out rfl
      clear hh hno
      have HALL := Lib.hid hall
      have HA := Lib.hid ha
      have a1 : a < 16777216 := by have := hv_bd s.data.toList k (by omega) (by have := hLn.out; omega) hall; omega
      have a0 : 0 ≤ a := by omega
      clear ha hall
      by_cases hlt : k < s.size
      · cases hl : lhex s[k].toNat with
        | true =>
          have hn0 : 0 ≤ nib s[k].toNat := nib_ge hl
          have hn1 : nib s[k].toNat < 16 := (nib_hex (c := s[k]) hl).2
          have HN : Hid (a * 16 + nib s[k].toNat = (hv (s.data.toList.take (k + 1)) : Int) ∧ ∀ j (h : j < s.data.toList.length), j < k + 1 → hexB (s.data.toList[j]'h) = true) := by
            refine ⟨?_, fun j h hj => ?_⟩
            · rw [take_step _ k (by have := hLn.out; omega), HA.out]
              have : s.data.toList.getD k 0 = s[k] := by
                rw [← at_eq s k hlt]; simp [List.getD, List.getElem?_eq_getElem (show k < s.data.toList.length by have := hLn.out; omega)]
              rw [this]; omega
            · by_cases e : j = k
              · subst e; rw [at_eq s j hlt]; exact hl
              · exact HALL.out j h (by omega)
          clear HA HALL
          go_wp2_with (first
            | (go_at_call 5; refine (zzNibble_any _ _).mono ?_; rintro e w' ⟨rfl, rfl⟩))
          go_round
          case rel => exact ⟨k + 1, a * 16 + nib s[k].toNat, true, rfl, rfl, by go_num, by omega, fun _ => HN.out, fun h => absurd h (by decide)⟩
          case measure => simp [intOf]; omega
        | false =>
          have hn : nib s[k].toNat < 0 := nib_lt hl
          have HM : Hid (mo 6 6 s = false) := mo_bad k hlt hl
          clear HA HALL
          go_wp2_with (first
            | (go_at_call 5; refine (zzNibble_any _ _).mono ?_; rintro e w' ⟨rfl, rfl⟩))
          go_round
          case rel => exact ⟨k + 1, a, false, rfl, rfl, by go_num, by omega, fun h => absurd h (by decide), fun _ => HM.out⟩
          case measure => simp [intOf]; omega
      · have hkk : k = s.size := by omega
        have hmo : mo 6 6 s = true := mo_all ⟨by omega, by omega⟩ (fun j hj => by
          have := HALL.out j (by have := hLn.out; omega) (by omega)
          rw [at_eq s j hj] at this; exact this)
        have hal : allB s.data.toList = true := by unfold mo at hmo; simp only [Bool.and_eq_true] at hmo; exact hmo.2
        have hmo8 : mo 1 8 s = true := by unfold mo; rw [hal, decide_eq_true (by omega)]; rfl
        have hav : (hv s.data.toList : Int) = a := by
          rw [HA.out, List.take_of_length_le (by have := hLn.out; omega)]
        have hT3 : hexF 7 (hv s.data.toList) = trim s.data.toList := hexF_hv 7 _ (by intro e; have := hLn.out; rw [e] at this; simp at this; omega) (by have := hLn.out; omega) hal
        have HR : Hid (∀ W, TabOK W → Calls Tryd.prog 7 #[.string s] W fun e w' => e = .returned (.tuple #[.int .i64 a, .bool true]) ∧ Below W.heap.size W w') := fun W h => by
          have := zzreadHexTime_ok s hmo8 W h.1 h.2
          rw [hav] at this; exact this
        have HW : Hid (∀ W, TabOK W → Calls Tryd.prog 8 #[.int .i64 a] W fun e w' => e = .returned (.string ⟨(trim s.data.toList).toArray⟩) ∧ Below W.heap.size W w') := fun W h => by
          have := zzhexTime_any (hv s.data.toList) (by omega) W h.1 h.2
          rw [hav, hT3] at this; exact this
        have HZ : Hid (∀ W, Calls Tryd.prog 11 #[.string s] W fun e w' => e = .returned (.string ⟨(trim s.data.toList).toArray⟩) ∧ w' = W) := fun W => zzTrim_any s HS.out (by omega) W
        clear HA HALL hkk hav hT3 hal hmo8
        generalize (ByteArray.mk (trim s.data.toList).toArray) = T at HW HZ
        go_wp2_with (first
          | (go_at_call 10; refine (zzisUv_any _ HS.out _).mono ?_; rintro e w' ⟨rfl, rfl⟩)
          | (go_at_call 7; refine (HR.out _ (by exact HT.out)).mono ?_; rintro e w1 ⟨rfl, hb⟩)
          | (go_at_call 8; refine (HW.out _ (by exact HT.out.below hb)).mono ?_; rintro e w2 ⟨rfl, hb2⟩)
          | (go_at_call 11; refine (HZ.out _).mono ?_; rintro e w3 ⟨rfl, rfl⟩))
        go_ret
        exact ⟨rfl, hb.trans (hb2.mono hb.size)⟩
set_option maxHeartbeats 1000000 in
theorem main4_not (s : ByteArray) (h6 : s.size ≠ 6) (hs : s.size ≤ maxLen) (w : World) :
    Calls Tryd.prog 4 #[.string s] w fun e w' => e = .returned (.bool true) ∧ Below w.heap.size w w' := by
  have HS : Hid (s.size ≤ maxLen) := hs
  unfold maxLen at hs
  have h6e : ((s.size : Int) == 6) = false := by simp; omega
  have hmo : mo 6 6 s = false := mo_no (by omega)
  by_cases hb2 : s.size ≤ 1048576
  · have h20 : decide (s.size ≤ 1048576) = true := by simpa using hb2
    by_cases hb3 : s.size ≤ 65536
    · go_enter Tryd.func4, Tryd.ntmps4
      go_wp2_with (first
        | (go_at_call 9; refine (zzBytes_any _ HS.out _).mono ?_; rintro e w' ⟨rfl, rfl⟩))
      go_loop [3, 4, 5] (fun vw vv vi => vw = .bool false ∧ vv = .int .i64 0 ∧ vi = .int .i64 0) (fun _ _ _ => 0)
      case atStart => exact ⟨rfl, rfl, rfl⟩
      case round =>
        obtain ⟨rfl, rfl, rfl⟩ := hrel
        by_cases hlt : 0 < s.size
        all_goals
          go_wp2_with (first
            | (go_at_call 10; refine (zzisUv_any _ HS.out _).mono ?_; rintro e w' ⟨rfl, rfl⟩))
          go_ret
          exact ⟨rfl, Below.refl _ _⟩
    · go_enter Tryd.func4, Tryd.ntmps4
      go_wp2_with (first
        | (go_at_call 9; refine (zzBytes_any _ HS.out _).mono ?_; rintro e w' ⟨rfl, rfl⟩))
      go_ret
      exact ⟨rfl, Below.refl _ _⟩
  · have h20 : decide (s.size ≤ 1048576) = false := by simpa using hb2
    go_enter Tryd.func4, Tryd.ntmps4
    go_wp2_with (first
      | (go_at_call 9; refine (zzBytes_any _ HS.out _).mono ?_; rintro e w' ⟨rfl, rfl⟩))
    go_ret
    exact ⟨rfl, Below.refl _ _⟩
theorem main4 (s : ByteArray) (hs : s.size ≤ maxLen) (w : World) (hT : TabOK w) :
    Calls Tryd.prog 4 #[.string s] w fun e w' => e = .returned (.bool true) ∧ Below w.heap.size w w' := by
  by_cases h6 : s.size = 6
  · exact main4_six s h6 w hT
  · exact main4_not s h6 hs w
end Go.Proofs.Qxb6613156aDoor
