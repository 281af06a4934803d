import Derived.Test.Qxb6613156aWalks
import Derived.Laws.IdiomStrings
import Derived.Laws.Concat
import Derived.Laws.Strings3
namespace Go.Proofs.Qxb6613156a
open Go.RowKit Plain
theorem conv_one (c : UInt8) (W : World) : (convert 24 9 (.slice (some ⟨W.heap.size, 0, none⟩) 1 1)).run Try.prog (W.alloc (.cells #[.int .u8 c.toNat] 5)) = .ok (.string ⟨#[c]⟩) (W.alloc (.cells #[.int .u8 c.toNat] 5)) := by
  refine run_convert_bytes_back (W.alloc (.cells #[.int .u8 c.toNat] 5)) 24 9 5 ⟨W.heap.size, 0, none⟩ 1 [c] Try.underlying24 Try.underlying5 Try.underlying9 ?_
  intro j hj
  have : j = 0 := by simp at hj; omega
  subst this
  exact World.cell?_alloc_mark W #[.int .u8 c.toNat] 5 (0, 0) 0
theorem add_ok (a b : ByteArray) (ha : a.size ≤ 70000) (hb : b.size ≤ 70000) (W : World) : (Op.stringOp .add a b).run Try.prog W = .ok (.string (a ++ b)) W := run_string_add_sum W a b (by omega)
theorem one_size (c : UInt8) : (ByteArray.mk #[c]).size = 1 := rfl
theorem one_le (c : UInt8) : (ByteArray.mk #[c]).size ≤ 70000 := by rw [one_size]; omega
theorem cat2_le {a b : ByteArray} (ha : a.size ≤ 65536) (hb : b.size = 1) : (a ++ b).size ≤ 70000 := by rw [ByteArray.size_append]; omega
theorem cat2_max {a b : ByteArray} (ha : a.size ≤ 65536) (hb : b.size ≤ 65536) : (a ++ b).size ≤ maxLen := by unfold maxLen; rw [ByteArray.size_append]; omega
theorem cat3_max {a b c : ByteArray} (ha : a.size ≤ 65536) (hb : b.size = 1) (hc : c.size ≤ 65536) : (a ++ b ++ c).size ≤ maxLen := by unfold maxLen; rw [ByteArray.size_append, ByteArray.size_append]; omega
theorem ext_le {s : ByteArray} (h : s.size ≤ 65536) (i j : Nat) : (s.extract i j).size ≤ 65536 := by rw [ByteArray.size_extract]; omega
set_option maxHeartbeats 1000000 in
theorem main_end (s : ByteArray) (hs : s.size ≤ maxLen) (k : Nat) (c : UInt8) (h16 : s.size ≤ 65536) (hk : k = s.size) (w : World)
    (b1 : Bool) (g1 : uvB (s.extract 0 k ++ ⟨#[48]⟩ ++ s.extract k s.size) = b1) (l1 : uvB (s.extract 0 k ++ ⟨#[c]⟩ ++ s.extract k s.size) = (b1 && lhex c.toNat)) :
    Calls Try.prog 3 #[.string s, .int .i64 k, .int .u8 c.toNat] w fun e w' => e = .returned (.bool true) ∧ Grown w w' := by
  have HS : Hid (s.size ≤ maxLen) := hs
  have H16 : Hid (s.size ≤ 65536) := h16
  unfold maxLen at hs
  have h20 : decide (s.size ≤ 1048576) = true := by simp; omega
  have hcv := conv_one c
  have hke : ((k : Int) == (s.size : Int)) = true := by simp; omega
  have hk1 : k ≤ s.size := by omega
  have z1 : (s.extract 0 k).size ≤ 65536 := ext_le h16 _ _
  have z2 : (s.extract k s.size).size ≤ 65536 := ext_le h16 _ _
  have a1 := add_ok (s.extract 0 k) ⟨#[c]⟩ (by omega) (one_le c)
  have a2 := add_ok (s.extract 0 k) ⟨#[48]⟩ (by omega) (one_le 48)
  have a3 := add_ok (s.extract 0 k ++ ⟨#[c]⟩) (s.extract k s.size) (cat2_le z1 rfl) (by omega)
  have a4 := add_ok (s.extract 0 k ++ ⟨#[48]⟩) (s.extract k s.size) (cat2_le z1 rfl) (by omega)
  clear z1 z2 hk
  cases b1
  all_goals
    simp only [Bool.false_and, Bool.true_and] at l1
    go_enter Try.func3, Try.ntmps3
    go_wp2_with (first
      | (go_at_call 4; refine (zzBytes_any _ HS.out _ _ _).mono ?_; rintro e w' ⟨rfl, rfl⟩)
      | (go_at_call 5; refine (zzisUv_any _ HS.out _).mono ?_; rintro e w' ⟨rfl, rfl⟩)
      | (go_at_call 6; refine (zzIsSixHex_any _ HS.out _).mono ?_; rintro e w' ⟨rfl, rfl⟩))
    go_quiet (first
      | (go_at_call 5; refine Calls.quiet_of_same (zzisUv_any _ ?_ _); exact cat3_max (ext_le H16.out _ _) rfl (ext_le H16.out _ _))
      | (go_at_call 7; exact Calls.quiet_of_same (zzisLowerHex_any _ _)))
    go_wp2
    go_ret
    exact ⟨rfl, by repeat (first | exact Grown.refl _ | apply Grown.drew | apply Grown.alloc)⟩
theorem quiet2 {f : FuncId} {args : Array Value} {W : World} {m n : Nat} {v : Value}
    (h : Calls Try.prog f args (W.drewN (m + n)) fun e w' => e = .returned v ∧ w' = W.drewN (m + n)) : Calls Try.prog f args (W.drewN (m + n)) fun e w'' => e = .returned v ∧ ∃ j, w'' = W.drewN (m + j) :=
  h.mono fun _ _ ⟨he, hm⟩ => ⟨he, n, hm⟩
set_option maxHeartbeats 8000000 in
theorem main_mid (s : ByteArray) (hs : s.size ≤ maxLen) (k : Nat) (c : UInt8) (h16 : s.size ≤ 65536) (hk : k < s.size) (w : World)
    (b1 : Bool) (g1 : uvB (s.extract 0 k ++ ⟨#[48]⟩ ++ s.extract k s.size) = b1) (l1 : uvB (s.extract 0 k ++ ⟨#[c]⟩ ++ s.extract k s.size) = (b1 && lhex c.toNat))
    (b2 : Bool) (g2 : uvB (s.extract 0 k ++ ⟨#[48]⟩ ++ s.extract (k + 1) s.size) = b2) (l2 : uvB (s.extract 0 k ++ ⟨#[c]⟩ ++ s.extract (k + 1) s.size) = (b2 && lhex c.toNat))
    (u : Bool) (g3 : uvB s = u) (l3 : u = true → uvB (s.extract 0 k ++ s.extract (k + 1) s.size) = false) :
    Calls Try.prog 3 #[.string s, .int .i64 k, .int .u8 c.toNat] w fun e w' => e = .returned (.bool true) ∧ Grown w w' := by
  have HS : Hid (s.size ≤ maxLen) := hs
  have H16 : Hid (s.size ≤ 65536) := h16
  unfold maxLen at hs
  have h20 : decide (s.size ≤ 1048576) = true := by simp; omega
  have hcv := conv_one c
  have hke : ((k : Int) == (s.size : Int)) = false := by simp; omega
  have hk1 : k ≤ s.size := by omega
  have z1 : (s.extract 0 k).size ≤ 65536 := ext_le h16 _ _
  have z2 : (s.extract k s.size).size ≤ 65536 := ext_le h16 _ _
  have z3 : (s.extract (k + 1) s.size).size ≤ 65536 := ext_le h16 _ _
  have a1 := add_ok (s.extract 0 k) ⟨#[c]⟩ (by omega) (one_le c)
  have a2 := add_ok (s.extract 0 k) ⟨#[48]⟩ (by omega) (one_le 48)
  have a3 := add_ok (s.extract 0 k ++ ⟨#[c]⟩) (s.extract k s.size) (cat2_le z1 rfl) (by omega)
  have a4 := add_ok (s.extract 0 k ++ ⟨#[48]⟩) (s.extract k s.size) (cat2_le z1 rfl) (by omega)
  have a5 := add_ok (s.extract 0 k ++ ⟨#[c]⟩) (s.extract (k + 1) s.size) (cat2_le z1 rfl) (by omega)
  have a6 := add_ok (s.extract 0 k ++ ⟨#[48]⟩) (s.extract (k + 1) s.size) (cat2_le z1 rfl) (by omega)
  have a7 := add_ok (s.extract 0 k) (s.extract (k + 1) s.size) (by omega) (by omega)
  have hsl : ∀ W, (Instr.slice 9 (.string s) (some (.int .i64 ((k : Int) + 1))) none none).run Try.prog W = .ok (.string (s.extract (k + 1) s.size)) W := fun W => by
    rw [run_slice_string_from_if W 9 s .i64 _ Try.underlying9, if_pos ⟨by omega, by omega⟩]
    rfl
  have hwr : IntKind.i64.wrap ((k : Int) + 1) = (k : Int) + 1 := by rw [IntKind.wrap_i64]; omega
  clear z1 z2 z3
  cases u
  · clear l3
    cases b1 <;> cases b2
    all_goals
      simp only [Bool.false_and, Bool.true_and] at l1 l2
      go_enter Try.func3, Try.ntmps3
      go_wp2_with (first
        | (go_at_call 4; refine (zzBytes_any _ HS.out _ _ _).mono ?_; rintro e w' ⟨rfl, rfl⟩)
        | (go_at_call 5; refine (zzisUv_any _ HS.out _).mono ?_; rintro e w' ⟨rfl, rfl⟩)
        | (go_at_call 6; refine (zzIsSixHex_any _ HS.out _).mono ?_; rintro e w' ⟨rfl, rfl⟩))
      go_quiet (first
        | (go_at_call 5; refine Calls.quiet_of_same (zzisUv_any _ ?_ _); exact cat3_max (ext_le H16.out _ _) rfl (ext_le H16.out _ _))
        | (go_at_call 7; exact Calls.quiet_of_same (zzisLowerHex_any _ _)))
      go_wp2
      go_quiet (first
        | (go_at_call 5; refine quiet2 (zzisUv_any _ ?_ _); exact cat3_max (ext_le H16.out _ _) rfl (ext_le H16.out _ _))
        | (go_at_call 7; exact quiet2 (zzisLowerHex_any _ _)))
      go_wp2
      go_quiet (fail)
      go_wp2
      go_ret
      exact ⟨rfl, by repeat (first | exact Grown.refl _ | apply Grown.drew | apply Grown.alloc)⟩
  · have l3' := l3 rfl
    clear l3
    cases b1 <;> cases b2
    all_goals
      simp only [Bool.false_and, Bool.true_and] at l1 l2
      go_enter Try.func3, Try.ntmps3
      go_wp2_with (first
        | (go_at_call 4; refine (zzBytes_any _ HS.out _ _ _).mono ?_; rintro e w' ⟨rfl, rfl⟩)
        | (go_at_call 5; refine (zzisUv_any _ HS.out _).mono ?_; rintro e w' ⟨rfl, rfl⟩)
        | (go_at_call 6; refine (zzIsSixHex_any _ HS.out _).mono ?_; rintro e w' ⟨rfl, rfl⟩))
      go_quiet (first
        | (go_at_call 5; refine Calls.quiet_of_same (zzisUv_any _ ?_ _); exact cat3_max (ext_le H16.out _ _) rfl (ext_le H16.out _ _))
        | (go_at_call 7; exact Calls.quiet_of_same (zzisLowerHex_any _ _)))
      go_wp2
      go_quiet (first
        | (go_at_call 5; refine quiet2 (zzisUv_any _ ?_ _); exact cat3_max (ext_le H16.out _ _) rfl (ext_le H16.out _ _))
        | (go_at_call 7; exact quiet2 (zzisLowerHex_any _ _)))
      go_wp2
      go_quiet ((go_at_call 5; refine quiet2 (zzisUv_any _ ?_ _); exact cat2_max (ext_le H16.out _ _) (ext_le H16.out _ _)))
      go_wp2
      go_ret
      exact ⟨rfl, by repeat (first | exact Grown.refl _ | apply Grown.drew | apply Grown.alloc)⟩
end Go.Proofs.Qxb6613156a
