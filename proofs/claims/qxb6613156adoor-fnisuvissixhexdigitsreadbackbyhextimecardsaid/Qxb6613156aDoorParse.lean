import Derived.Test.Qxb6613156aDoorWalks
import Derived.Lib.Strings
import Derived.Lib.Walk
import Derived.Lib.ConvBytes
import Derived.Lib.AtoiAllMem
import Derived.Lib.Hide
import Derived.Lib.IfaceNeq
import Derived.Laws.Strings3
import Derived.Laws.Closers25
import Derived.Laws.Closers25b
import Derived.BigCall
import Derived.BigGuard
namespace Go.Proofs.Qxb6613156aDoor
open Go.RowKit Plain
theorem or32 (c : Int) (h0 : 97 ≤ c) (h1 : c ≤ 102) : bits .or .u8 c 32 = c := by
  have : c = 97 ∨ c = 98 ∨ c = 99 ∨ c = 100 ∨ c = 101 ∨ c = 102 := by omega
  rcases this with rfl | rfl | rfl | rfl | rfl | rfl <;> rfl
set_option maxHeartbeats 400000 in
theorem lower_any (c : Int) (h0 : 97 ≤ c) (h1 : c ≤ 102) (w : World) :
    Calls Tryd.prog 33 #[.int .u8 c] w fun e w' => e = .returned (.int .u8 c) ∧ w' = w := by
  have ho : Hid (bits .or .u8 c 32 = c) := or32 c h0 h1
  go_enter Tryd.func33, Tryd.ntmps33
  go_wp2
  go_ret
  exact ⟨ret_int ho.out, rfl⟩
theorem take_step (bs : List UInt8) (k : Nat) (hk : k < bs.length) : hv (bs.take (k + 1)) = hv (bs.take k) * 16 + (nib (bs.getD k 0).toNat).toNat := by
  rw [List.take_succ_eq_append_getElem hk, hv_snoc]
  simp [List.getD, List.getElem?_eq_getElem hk]
theorem hv_take_lt (bs : List UInt8) (k : Nat) (hk : k ≤ 7) (hl : k ≤ bs.length) (ha : allB bs = true) : hv (bs.take k) < 268435456 := by
  have h := hv_lt (bs.take k) (by
    unfold allB at ha ⊢; rw [List.all_eq_true] at ha ⊢
    exact fun x hx => ha x (List.mem_of_mem_take hx))
  rw [List.length_take, Nat.min_eq_left hl] at h
  exact Nat.lt_of_lt_of_le h (Nat.le_trans (Nat.pow_le_pow_right (by omega) hk) (by decide))
set_option maxHeartbeats 4000000 in
set_option maxRecDepth 100000 in
theorem parseUint_any (t : ByteArray) (hne : t.size ≠ 0) (h8 : t.size ≤ 8) (ha : allB t.data.toList = true) (w : World) :
    Calls Tryd.prog 24 #[.string t, .int .i64 16, .int .i64 64] w fun e w' => e = .returned (.tuple #[.int .u64 (hv t.data.toList), .nilIface]) ∧ w' = Lib.bytesWorld w 5 t := by
  have hemp : t.toList.isEmpty = false := by
    rw [← decide_eq_emptyBytes]
    exact decide_eq_false (fun h => hne (by rw [h]; rfl))
  have hcv := Lib.run_convert_string_bytes (P := Tryd.prog) w 9 24 5 t (u := .string) Tryd.underlying9 Tryd.underlying24 Tryd.underlying5
  have hB : ∀ j, j < t.size → (Lib.bytesWorld w 5 t).cell? ⟨w.heap.size, j, none⟩ = some (.int .u8 (t.data.toList.getD j 0).toNat) := fun j hj => Lib.bytesWorld_cell w 5 t j hj
  obtain ⟨W1, hW1⟩ : ∃ W1, W1 = Lib.bytesWorld w 5 t := ⟨_, rfl⟩
  rw [← hW1] at hcv hB ⊢
  clear hW1
  obtain ⟨bs, hL⟩ : ∃ bs, bs = t.data.toList := ⟨_, rfl⟩
  have hLn : bs.length = t.size := by rw [hL, Lib.size_eq]
  rw [← hL] at hB ha ⊢
  clear hL
  have hA : Hid (allB bs = true) := ha
  have hX : Hid (∀ j, j < t.size → lhex (bs.getD j 0).toNat = true) := fun j hj => by
    unfold allB at ha; rw [List.all_eq_true] at ha
    have := ha (bs[j]'(by omega)) (List.getElem_mem _)
    simpa [hexB, List.getD, List.getElem?_eq_getElem (show j < bs.length by omega)] using this
  clear ha
  have HL : Hid (bs.length = t.size) := hLn
  clear hLn
  have hmv : IntKind.u64.wrap (IntKind.u64.wrap 18446744073709551616 - 1) = 18446744073709551615 := by
    rw [IntKind.wrap_u64, IntKind.wrap_u64]
    decide
  go_enter Tryd.func24, Tryd.ntmps24
  go_wp2
  go_loop [12, 13, 101] (fun vu vn vi => ∃ (k : Nat) (a : Int), vu = .bool false ∧ vn = .int .u64 a ∧ vi = .int .i64 k ∧ k ≤ t.size ∧ Hid (a = (hv (bs.take k) : Int)))
    (fun _ _ vi => t.size - (intOf vi).toNat)
  case atStart => exact ⟨0, 0, rfl, rfl, rfl, by omega, rfl⟩
  case round =>
    obtain ⟨k, a, rfl, rfl, rfl, hk, hh⟩ := hrel
    by_cases hkn : k < t.size
    · have hc := hB k hkn
      have hx := hX.out k hkn
      have a0 : 0 ≤ a := by have := hh.out; omega
      have a1 : a < 268435456 := by have := hh.out; have := hv_take_lt bs k (by omega) (by have := HL.out; omega) hA.out; omega
      have hst := take_step bs k (by have := HL.out; omega)
      have HN : Hid (a * 16 + nib (bs.getD k 0).toNat = (hv (bs.take (k + 1)) : Int)) := by
        have h1 := hh.out
        have h2 := nib_ge hx
        unfold Hid; rw [hst, h1]; omega
      clear hst hh hB
      generalize (bs.getD k 0) = c at hc hx HN
      have hc256 : c.toNat < 256 := c.toNat_lt
      by_cases hdig : 48 ≤ c.toNat ∧ c.toNat ≤ 57
      · obtain ⟨hd0, hd1⟩ := hdig
        have hn : nib c.toNat = (c.toNat : Int) - 48 := by unfold nib; rw [if_pos (by omega)]
        rw [hn] at HN
        clear hn hx
        go_wp2
        refine ⟨⟨k + 1, a * 16 + ((c.toNat : Int) - 48), rfl, (by first | rfl | (congr 1; omega)), (by first | rfl | (congr 1; omega)), by omega, HN⟩, by simp [intOf]; omega⟩
      · have hlet : 97 ≤ c.toNat ∧ c.toNat ≤ 102 := by
          unfold lhex at hx; simp only [decide_eq_true_eq] at hx; omega
        obtain ⟨hd0, hd1⟩ := hlet
        have hn : nib c.toNat = (c.toNat : Int) - 97 + 10 := by unfold nib; rw [if_neg (by omega), if_pos (by omega)]; omega
        rw [hn] at HN
        clear hn hx hdig
        go_wp2_with (go_at_call 33; refine (lower_any _ (by omega) (by omega) _).mono ?_; rintro e w' ⟨rfl, rfl⟩)
        refine ⟨⟨k + 1, a * 16 + ((c.toNat : Int) - 97 + 10), rfl, (by first | rfl | (congr 1; omega)), (by first | rfl | (congr 1; omega)), by omega, HN⟩, by simp [intOf]; omega⟩
    · have hkk : k = t.size := by omega
      subst hkk
      have HE : Hid (a = (hv bs : Int)) := by
        have h1 := hh.out
        rw [List.take_of_length_le (by have := HL.out; omega)] at h1
        exact h1
      clear hh
      go_wp2
      go_ret2
      exact ⟨by rw [HE.out]; rfl, rfl⟩
theorem bytesWorld_below (w : World) (e : TypeId) (t : ByteArray) : Below w.heap.size w (Lib.bytesWorld w e t) :=
  ⟨rfl, rfl, rfl, by rw [Lib.bytesWorld_size]; omega, fun k hk => Lib.bytesWorld_at_old w e t k hk⟩
set_option maxHeartbeats 4000000 in
set_option maxRecDepth 100000 in
theorem parseInt_in (t : ByteArray) (hne : t.size ≠ 0) (h8 : t.size ≤ 8) (ha : allB t.data.toList = true) (w : World) :
    Calls Tryd.prog 21 #[.string t, .int .i64 16, .int .i64 64] w fun e w' => e = .returned (.tuple #[.int .i64 (hv t.data.toList), .nilIface]) ∧ w' = Lib.bytesWorld w 5 t := by
  have hemp : t.toList.isEmpty = false := by
    rw [← decide_eq_emptyBytes]
    exact decide_eq_false (fun h => hne (by rw [h]; rfl))
  have hpos : 0 < t.size := by omega
  have hU := parseUint_any t hne h8 ha w
  have hlt : hv t.data.toList < 4294967296 := by
    have h := hv_lt t.data.toList ha
    rw [← Lib.size_eq] at h
    exact Nat.lt_of_lt_of_le h (Nat.le_trans (Nat.pow_le_pow_right (by omega) h8) (by decide))
  have hx : lhex (t[0]'hpos).toNat = true := by
    unfold allB at ha; rw [List.all_eq_true] at ha
    exact ha _ (by simp [ByteArray.getElem_eq_getElem_data])
  generalize hc : (t[0]'hpos) = c at hx
  have h43 : ((c.toNat : Int) == 43) = false := by unfold lhex at hx; simp only [decide_eq_true_eq] at hx; simp; omega
  have h45 : ((c.toNat : Int) == 45) = false := by unfold lhex at hx; simp only [decide_eq_true_eq] at hx; simp; omega
  obtain ⟨a, hA⟩ : ∃ a : Int, a = (hv t.data.toList : Int) := ⟨_, rfl⟩
  rw [← hA] at hU ⊢
  have a0 : 0 ≤ a := by omega
  have a1 : a < 4294967296 := by omega
  clear hlt hA ha hx
  have HU := Lib.hid hU
  clear hU
  go_enter Tryd.func21, Tryd.ntmps21
  go_wp2_with (go_at_call 24; refine HU.out.mono ?_; rintro e w1 ⟨rfl, hw1⟩)
  go_ret2
  exact ⟨rfl, rfl⟩
set_option maxHeartbeats 4000000 in
theorem parseInt_any (t : ByteArray) (hne : t.size ≠ 0) (h8 : t.size ≤ 8) (ha : allB t.data.toList = true) (w : World) :
    Calls Tryd.prog 19 #[.string t, .int .i64 16, .int .i64 64] w fun e w' => e = .returned (.tuple #[.int .i64 (hv t.data.toList), .nilIface]) ∧ w' = Lib.bytesWorld w 5 t := by
  have HU := Lib.hid (parseInt_in t hne h8 ha w)
  go_enter Tryd.func19, Tryd.ntmps19
  go_wp2_with (go_at_call 21; refine HU.out.mono ?_; rintro e w1 ⟨rfl, hw1⟩)
  go_ret2
  exact ⟨rfl, rfl⟩
end Go.Proofs.Qxb6613156aDoor
