import Derived.Test.Qxb6613156aDoorWalks
import Derived.Lib.Strings
import Derived.Lib.Walk
import Derived.Lib.Hide
import Derived.Lib.ItoaWalk
import Derived.Lib.ItoaMem
import Derived.Laws.IdiomStrings
import Derived.Laws.BitsAllLaws
import Derived.Laws.Closers25
import Derived.Laws.Closers25b
import Derived.BigCall
import Derived.BigGuard
namespace Go.Proofs.Qxb6613156aDoor
open Go.RowKit Plain
theorem and16 : bits .and .u64 16 (IntKind.u64.wrap (-16)) = 16 := by rw [IntKind.wrap_u64]; rfl
theorem and16i : (bits .and .i64 16 15 == 0) = true := by rfl
theorem mul16 : IntKind.u64.wrap (16 * 285870213051353865) = 4573923408821661840 := by rw [IntKind.wrap_u64]; rfl
theorem mul16' : IntKind.u64.wrap 4573923408821661840 = 4573923408821661840 := by rw [IntKind.wrap_u64]; rfl
set_option maxHeartbeats 400000 in
theorem isPow_16 (w : World) : Calls Tryd.prog 41 #[.int .i64 16] w fun e w' => e = .returned (.bool true) ∧ w' = w := by
  go_enter Tryd.func41, Tryd.ntmps41
  go_wp2
  go_ret
  exact ⟨ret_bool and16i, rfl⟩
set_option maxHeartbeats 400000 in
theorem tz64_16 (w : World) (ht : w.cell? ⟨4, 15, none⟩ = some (.int .u8 4)) : Calls Tryd.prog 45 #[.int .u64 16] w fun e w' => e = .returned (.int .i64 4) ∧ w' = w := by
  have h1 := and16
  have h2 := mul16
  have h3 := mul16'
  go_enter Tryd.func45, Tryd.ntmps45
  go_wp2
  go_ret
  exact ⟨rfl, rfl⟩
set_option maxHeartbeats 400000 in
theorem tz_16 (w : World) (ht : w.cell? ⟨4, 15, none⟩ = some (.int .u8 4)) : Calls Tryd.prog 42 #[.int .u64 16] w fun e w' => e = .returned (.int .i64 4) ∧ w' = w := by
  go_enter Tryd.func42, Tryd.ntmps42
  go_wp2_with (go_at_call 45; refine (tz64_16 _ ht).mono ?_; rintro e w' ⟨rfl, rfl⟩)
  go_ret
  exact ⟨rfl, rfl⟩
def Z65 : Array Value := Array.replicate 65 (.int .u8 0)
theorem zero60 (W : World) : (zeroValue 60).run Tryd.prog W = .ok (.agg Z65) W := by kernel_rfl
theorem z65_at (j : Nat) (h : j < 65) : Z65[j]? = some (.int .u8 0) := by unfold Z65; rw [Array.getElem?_replicate, if_pos h]
theorem z65_cell (w : World) (j : Nat) (h : j < 65) : (w.alloc (.cells Z65 60)).cell? ⟨w.heap.size, j, none⟩ = some (.int .u8 0) := by
  rw [World.cell?_alloc_mark]; exact z65_at j h
theorem digs_at (n : Nat) (h : n < (ByteArray.mk #[48, 49, 50, 51, 52, 53, 54, 55, 56, 57, 97, 98, 99, 100, 101, 102, 103, 104, 105, 106, 107, 108, 109, 110, 111, 112, 113, 114, 115, 116, 117, 118, 119, 120, 121, 122]).size) (h16 : n < 16) :
    (ByteArray.mk #[48, 49, 50, 51, 52, 53, 54, 55, 56, 57, 97, 98, 99, 100, 101, 102, 103, 104, 105, 106, 107, 108, 109, 110, 111, 112, 113, 114, 115, 116, 117, 118, 119, 120, 121, 122])[n]'h = dg n := by
  have : ∀ n : Fin 16, ∀ h, (ByteArray.mk #[48, 49, 50, 51, 52, 53, 54, 55, 56, 57, 97, 98, 99, 100, 101, 102, 103, 104, 105, 106, 107, 108, 109, 110, 111, 112, 113, 114, 115, 116, 117, 118, 119, 120, 121, 122])[n.1]'h = dg n.1 := by
    intro ⟨n, hn⟩ h
    match n, hn with
    | 0, _ | 1, _ | 2, _ | 3, _ | 4, _ | 5, _ | 6, _ | 7, _ | 8, _ | 9, _ | 10, _ | 11, _ | 12, _ | 13, _ | 14, _ | 15, _ => rfl
    | n + 16, hn => exact absurd hn (by omega)
  exact this ⟨n, h16⟩ h
theorem and15 (x : Nat) (h : x < 4294967296) : bits .and .u64 (x : Int) 15 = ((x % 16 : Nat) : Int) := by
  rw [show (15 : Int) = ((15 : Nat) : Int) from rfl, u64_and_nat x 15 (by omega) (by omega)]
  have := Nat.and_two_pow_sub_one_eq_mod x 4
  rw [show (2 : Nat) ^ 4 - 1 = 15 from rfl, show (2 : Nat) ^ 4 = 16 from rfl] at this
  rw [this]
theorem start_cells (w : World) (j : Nat) (h : j < (List.replicate 65 (0 : UInt8)).length) :
    (w.alloc (.cells Z65 60)).cell? ⟨w.heap.size, j, none⟩ = some (.int .u8 ((List.replicate 65 (0 : UInt8))[j]'h).toNat) := by
  rw [z65_cell w j (by simpa using h), List.getElem_replicate]; rfl
theorem start_drop (u : Nat) : hexF 7 u = hexF 7 u ++ (List.replicate 65 (0 : UInt8)).drop (58 + 7) := by
  rw [List.drop_of_length_le (by rw [List.length_replicate]; omega), List.append_nil]
theorem pow_le8 (f : Nat) (hf : f ≤ 7) : 16 ^ (f + 1) ≤ 4294967296 := Nat.le_trans (Nat.pow_le_pow_right (by omega) (show f + 1 ≤ 8 by omega)) (by decide)
theorem cell_set (w wr : World) (L : List UInt8) (i : Nat) (c : UInt8) (hi : i < L.length)
    (hc : ∀ j (h : j < L.length), wr.cell? ⟨w.heap.size, j, none⟩ = some (.int .u8 (L[j]'h).toNat)) (j : Nat) (h : j < (L.set i c).length) :
    (wr.setCell ⟨w.heap.size, i, none⟩ (.int .u8 c.toNat)).cell? ⟨w.heap.size, j, none⟩ = some (.int .u8 ((L.set i c)[j]'h).toNat) := by
  rw [List.getElem_set]
  by_cases e : i = j
  · subst e; rw [if_pos rfl]; exact World.cell?_setCell_same wr _ _ (hc i hi)
  · rw [if_neg e, World.cell?_setCell_other (h := fun h => e (by injection h))]
    exact hc j (by simpa using h)
theorem addr_add (b o j : Nat) : (Addr.mk b o none).add j = ⟨b, o + j, none⟩ := by
  unfold Addr.add
  by_cases h : j = 0
  · rw [if_pos h, h]; rfl
  · rw [if_neg h]
theorem slice_end (B f : Nat) (hf : f ≤ 7) (W : World) : (Instr.sliceAt 60 (.pointer (some ⟨B, 0, none⟩)) (some (.int .i64 (58 + (f : Int) - 1))) none none).run Tryd.prog W = .ok (.slice (some ⟨B, 57 + f, none⟩) (8 - f) (8 - f)) W := by
  have hal : Tryd.prog.arrayLen 60 = 65 := by kernel_rfl
  have hsz : (sizeOf (Tryd.prog.elem 60)).run Tryd.prog W = .ok 1 W := by kernel_rfl
  rw [run_sliceAt_array_l W 60 ⟨B, 0, none⟩ (by kernel_rfl) .i64 _ (by omega) (by rw [hal]; omega), hsz, hal]
  have e1 : (58 + (f : Int) - 1).toNat = 57 + f := by omega
  simp only [Result.andThen, slicedAt, e1]
  rw [if_neg (by omega), Nat.mul_one, addr_add, Nat.zero_add, show 65 - (57 + f) = 8 - f by omega]
theorem hexF_step (f x : Nat) (h1 : 1 ≤ f) (h16 : 16 ≤ x) : hexF f x = hexF (f - 1) (x / 16) ++ [dg (x % 16)] := by
  obtain ⟨g, rfl⟩ : ∃ g, f = g + 1 := ⟨f - 1, by omega⟩
  conv => lhs; unfold hexF
  rw [if_neg (by omega)]; rfl
theorem hexF_small (f x : Nat) (h16 : x < 16) : hexF f x = [dg x] := by
  cases f with
  | zero => rfl
  | succ f => unfold hexF; rw [if_pos h16]
theorem drop_set (L : List UInt8) (i : Nat) (c : UInt8) (h : i < L.length) : (L.set i c).drop i = c :: L.drop (i + 1) := by
  rw [List.drop_eq_getElem_cons (by simpa using h)]
  simp [List.drop_set]
theorem round_step {u f x m : Nat} {a : Int} {L : List UInt8} {w wr : World} (h1f : 1 ≤ f) (hf : f ≤ 7) (hx : a = (x : Int) ∧ x < 16 ^ (f + 1)) (h16 : 16 ≤ a) (hm : m = x % 16) (hb : Below w.heap.size w wr) (hL : L.length = 65)
    (hc : ∀ j (h : j < L.length), wr.cell? ⟨w.heap.size, j, none⟩ = some (.int .u8 (L[j]'h).toNat)) (hz : ∀ j, j < 65 → wr.frozen? ⟨w.heap.size, j, none⟩ = false) (hd : hexF 7 u = hexF f x ++ L.drop (58 + f)) {c : UInt8} (hcd : c = dg m) :
    ∃ (f' x' : Nat) (a' : Int) (L' : List UInt8), Value.int .u64 (a / 16) = .int .u64 a' ∧ Value.int .i64 (58 + (f : Int) - 1) = .int .i64 ((58 + f' : Nat) : Int) ∧ f' ≤ 7 ∧ Hid (a' = (x' : Int) ∧ x' < 16 ^ (f' + 1)) ∧ Hid (Below w.heap.size w (wr.setCell ⟨w.heap.size, 57 + f, none⟩ (.int .u8 c.toNat))) ∧ L'.length = 65 ∧
      Hid (∀ j (h : j < L'.length), (wr.setCell ⟨w.heap.size, 57 + f, none⟩ (.int .u8 c.toNat)).cell? ⟨w.heap.size, j, none⟩ = some (.int .u8 (L'[j]'h).toNat)) ∧ Hid (∀ j, j < 65 → (wr.setCell ⟨w.heap.size, 57 + f, none⟩ (.int .u8 c.toNat)).frozen? ⟨w.heap.size, j, none⟩ = false) ∧ Hid (hexF 7 u = hexF f' x' ++ L'.drop (58 + f')) := by
  obtain ⟨rfl, hxl⟩ := hx
  refine ⟨f - 1, x / 16, ((x / 16 : Nat) : Int), L.set (57 + f) c, by congr 1, by congr 1; omega, by omega, ⟨rfl, ?_⟩, hb.setCell (Nat.le_refl _) _, by simpa using hL, cell_set w wr L (57 + f) c (by omega) hc, fun j h => by rw [World.frozen?_setCell]; exact hz j h, ?_⟩
  · rw [show f - 1 + 1 = f by omega]
    rw [Nat.pow_succ] at hxl
    omega
  · show hexF 7 u = _
    rw [hd, hexF_step f x h1f (by omega), show 58 + (f - 1) = 57 + f by omega, drop_set L (57 + f) c (by omega), hcd, hm, show 57 + f + 1 = 58 + f by omega]
    simp
theorem conv_end {u f x : Nat} {L : List UInt8} {w wr : World} (hf : f ≤ 7) (h16 : x < 16) (hL : L.length = 65)
    (hc : ∀ j (h : j < L.length), wr.cell? ⟨w.heap.size, j, none⟩ = some (.int .u8 (L[j]'h).toNat)) (hd : hexF 7 u = hexF f x ++ L.drop (58 + f)) {c : UInt8} (hcd : c = dg x) :
    (convert 24 9 (.slice (some ⟨w.heap.size, 57 + f, none⟩) (8 - f) (8 - f))).run Tryd.prog (wr.setCell ⟨w.heap.size, 57 + f, none⟩ (.int .u8 c.toNat)) = .ok (.string ⟨(hexF 7 u).toArray⟩) (wr.setCell ⟨w.heap.size, 57 + f, none⟩ (.int .u8 c.toNat)) := by
  have hl : hexF 7 u = (L.set (57 + f) c).drop (57 + f) := by
    rw [hd, hexF_small f x h16, drop_set L (57 + f) c (by omega), hcd, show 57 + f + 1 = 58 + f by omega]; rfl
  have hlen : (hexF 7 u).length = 8 - f := by rw [hl]; simp; omega
  have := run_convert_bytes_back (P := Tryd.prog) (wr.setCell ⟨w.heap.size, 57 + f, none⟩ (.int .u8 c.toNat)) 24 9 5 ⟨w.heap.size, 57 + f, none⟩ (8 - f) (hexF 7 u) Tryd.underlying24 Tryd.underlying5 Tryd.underlying9 (fun j hj => by
    have h1 := cell_set w wr L (57 + f) c (by omega) hc (57 + f + j) (by simp; omega)
    have h2 : ((L.set (57 + f) c)[57 + f + j]'(by simp; omega)) = (hexF 7 u)[j] := by
      simp only [hl, List.getElem_drop]
    rw [h2] at h1
    rw [addr_add]; exact h1)
  rw [hlen] at this
  exact this
set_option maxHeartbeats 400000 in
theorem formatBits_any (u : Nat) (hu : u < 4294967296) (w : World) (hw4 : 4 < w.heap.size) (ht : w.cell? ⟨4, 15, none⟩ = some (.int .u8 4)) :
    Calls Tryd.prog 32 #[.slice none 0 0, .int .u64 u, .int .i64 16, .bool false, .bool false] w fun e w' => e = .returned (.tuple #[.slice none 0 0, .string ⟨(hexF 7 u).toArray⟩]) ∧ Below w.heap.size w w' := by
  have hz := zero60
  go_enter Tryd.func32, Tryd.ntmps32
  go_wp2_with (first
    | (go_at_call 41; refine (isPow_16 _).mono ?_; rintro e w' ⟨rfl, rfl⟩)
    | (go_at_call 42; refine (tz_16 _ (by go_simp)).mono ?_; rintro e w' ⟨rfl, rfl⟩))
  go_loopw [1, 13] (fun vu vi wr => ∃ (f x : Nat) (a : Int) (L : List UInt8), vu = .int .u64 a ∧ vi = .int .i64 ((58 + f : Nat) : Int) ∧ f ≤ 7 ∧ Hid (a = (x : Int) ∧ x < 16 ^ (f + 1)) ∧ Hid (Below w.heap.size w wr) ∧ L.length = 65 ∧
      Hid (∀ j (h : j < L.length), wr.cell? ⟨w.heap.size, j, none⟩ = some (.int .u8 (L[j]'h).toNat)) ∧ Hid (∀ j, j < 65 → wr.frozen? ⟨w.heap.size, j, none⟩ = false) ∧ Hid (hexF 7 u = hexF f x ++ L.drop (58 + f)))
    (fun _ vi _ => (intOf vi).toNat)
  case atStart =>
    refine ⟨7, u, u, List.replicate 65 0, rfl, rfl, by omega, ⟨rfl, by omega⟩, (Below.refl _ _).alloc (Nat.le_refl _) _, List.length_replicate, start_cells w, fun j _ => World.frozen?_alloc_new _ _ _ _, start_drop u⟩
  case round =>
    obtain ⟨f, x, a, L, rfl, rfl, hf, hx, hb, hL, hc, hz2, hd⟩ := hrel
    by_cases h16 : 16 ≤ a
    · have h1f : 1 ≤ f := by
        obtain ⟨h1, h2⟩ := hx.out
        rcases Nat.lt_or_ge 0 f with h | h
        · omega
        · rw [show f = 0 by omega] at h2; omega
      have hce := hc.out (57 + f) (by omega)
      have hfz := hz2.out (57 + f) (by omega)
      obtain ⟨m, hm⟩ : ∃ m : Nat, m = x % 16 := ⟨_, rfl⟩
      have hbt : bits .and .u64 a 15 = (m : Int) := by rw [hm, hx.out.1]; exact and15 x (by have := hx.out.2; have := pow_le8 f hf; omega)
      have hm0 : m < 16 := by omega
      have HM : Hid (m = x % 16) := hm
      clear hm
      go_wp2
      exact ⟨round_step h1f hf hx.out h16 HM.out hb.out hL hc.out hz2.out hd.out (digs_at m _ hm0), by simp [intOf]; omega⟩
    · have hce := hc.out (57 + f) (by omega)
      have hfz := hz2.out (57 + f) (by omega)
      have hx16 : x < 16 := by have := hx.out.1; omega
      have hxa : a = (x : Int) := hx.out.1
      subst hxa
      have hcv := conv_end hf hx16 hL hc.out hd.out (digs_at x (by show x < 36; omega) hx16)
      have hsl := slice_end w.heap.size f hf
      go_wp2
      go_ret2
      exact ⟨rfl, hb.out.setCell (Nat.le_refl _) _⟩
set_option maxHeartbeats 400000 in
theorem formatInt_in (u : Nat) (hu : u < 4294967296) (w : World) (hw4 : 4 < w.heap.size) (ht : w.cell? ⟨4, 15, none⟩ = some (.int .u8 4)) :
    Calls Tryd.prog 23 #[.int .i64 u, .int .i64 16] w fun e w' => e = .returned (.string ⟨(hexF 7 u).toArray⟩) ∧ Below w.heap.size w w' := by
  have HF := Lib.hid (formatBits_any u hu w hw4 ht)
  have hn : ¬ (u : Int) < 0 := by omega
  go_enter Tryd.func23, Tryd.ntmps23
  go_wp2_with (go_at_call 32; refine HF.out.mono ?_; rintro e w' ⟨rfl, hb⟩)
  go_ret
  exact ⟨rfl, hb⟩
set_option maxHeartbeats 400000 in
theorem formatInt_any (u : Nat) (hu : u < 4294967296) (w : World) (hw4 : 4 < w.heap.size) (ht : w.cell? ⟨4, 15, none⟩ = some (.int .u8 4)) :
    Calls Tryd.prog 20 #[.int .i64 u, .int .i64 16] w fun e w' => e = .returned (.string ⟨(hexF 7 u).toArray⟩) ∧ Below w.heap.size w w' := by
  have HF := Lib.hid (formatInt_in u hu w hw4 ht)
  go_enter Tryd.func20, Tryd.ntmps20
  go_wp2_with (go_at_call 23; refine HF.out.mono ?_; rintro e w' ⟨rfl, hb⟩)
  go_ret
  exact ⟨rfl, hb⟩
set_option maxHeartbeats 400000 in
theorem hexTime_any (u : Nat) (hu : u < 4294967296) (w : World) (hw4 : 4 < w.heap.size) (ht : w.cell? ⟨4, 15, none⟩ = some (.int .u8 4)) :
    Calls Tryd.prog 15 #[.int .i64 u] w fun e w' => e = .returned (.string ⟨(hexF 7 u).toArray⟩) ∧ Below w.heap.size w w' := by
  have HF := Lib.hid (formatInt_any u hu w hw4 ht)
  go_enter Tryd.func15, Tryd.ntmps15
  go_wp2_with (go_at_call 20; refine HF.out.mono ?_; rintro e w' ⟨rfl, hb⟩)
  go_ret
  exact ⟨rfl, hb⟩
set_option maxHeartbeats 400000 in
theorem zzhexTime_any (u : Nat) (hu : u < 4294967296) (w : World) (hw4 : 4 < w.heap.size) (ht : w.cell? ⟨4, 15, none⟩ = some (.int .u8 4)) :
    Calls Tryd.prog 8 #[.int .i64 u] w fun e w' => e = .returned (.string ⟨(hexF 7 u).toArray⟩) ∧ Below w.heap.size w w' := by
  have HF := Lib.hid (hexTime_any u hu w hw4 ht)
  go_enter Tryd.func8, Tryd.ntmps8
  go_wp2_with (go_at_call 15; refine HF.out.mono ?_; rintro e w' ⟨rfl, hb⟩)
  go_ret
  exact ⟨rfl, hb⟩
end Go.Proofs.Qxb6613156aDoor
