import Derived.Test.Qxb6613197aFmtRepeats
import Derived.ArgAppend
import Derived.Lib.JoinLaws
namespace Go.Proofs.Qxb6613197aFmt
open Go.RowKit Go.Extern.Stop Go.Stop Go.Extern Go.WideMaps Go.Maps Go.Deep
/-- the slice at x holds the strings ss (of an empty list nothing is asked) -/
def SliceOf (W : World) (x : Option Addr) (ss : List ByteArray) : Prop :=
  0 < ss.length → ∃ b off, x = some ⟨b, off, none⟩ ∧ b < W.heap.size ∧ ∀ j (h : j < ss.length), W.cell? ⟨b, off + j, none⟩ = some (.string (ss[j]'h))
theorem SliceOf.below {W W' : World} {x : Option Addr} {ss : List ByteArray} (h : SliceOf W x ss) (hb : Below W.heap.size W W') : SliceOf W' x ss := fun h0 => by
  obtain ⟨b, off, e, hlt, hc⟩ := h h0
  exact ⟨b, off, e, Nat.lt_of_lt_of_le hlt hb.size, fun j hj => by rw [hb.cell (p := ⟨b, off + j, none⟩) hlt]; exact hc j hj⟩
theorem SliceOf.drewN {W : World} {x : Option Addr} {ss : List ByteArray} (h : SliceOf W x ss) (n : Nat) : SliceOf (W.drewN n) x ss := h.below (below_drewN (Below.refl _ _) n)
theorem dup_nil : dupB [] = false := rfl
/-- CheckServers at whatever slice -/
theorem check_gen (F : Interp) (x : Option Addr) (len cap : Nat) (ss : List ByteArray) (hl : len = ss.length) (w : World) (hF : F.answers w.tape) (hn : ss.length ≤ 16777216) (hx : SliceOf w x ss) (hsz : ∀ s ∈ ss, s.size ≤ maxLen) :
    Calls Tryf.prog 8 #[.slice x len cap, .nilFunc] w fun e w' => ∃ r, e = .returned r ∧ csR ss r ∧ Below w.heap.size w w' := by
  subst hl
  by_cases h0 : 0 < ss.length
  · obtain ⟨b, off, rfl, hlt, hc⟩ := hx h0
    exact check_any F b off cap ss w hF hn hlt hc hsz
  · have : ss = [] := List.length_eq_zero_iff.1 (by omega)
    subst this
    exact (check_zero x cap w).mono fun e w' ⟨he, hb⟩ => ⟨_, he, rfl, hb⟩
/-- copy(zzc, src) from whatever slice that is not nil -/
theorem copied_gen (a : Addr) (cap : Nat) (ss : List ByteArray) (w : World) (hx : SliceOf w (some a) ss) :
    ∃ W2 : World, (∀ ty, (Builtin.copy_ #[22, 22] ty #[.slice (some ⟨w.heap.size, 0, none⟩) ss.length ss.length, .slice (some a) ss.length cap]).run Tryf.prog (w.alloc (.cells (mk0 ss.length) 9)) = .ok (.int .i64 (ss.length : Int)) W2) ∧
      Below w.heap.size w W2 ∧ SliceOf W2 (some ⟨w.heap.size, 0, none⟩) ss := by
  by_cases h0 : 0 < ss.length
  · obtain ⟨b, off, e, hlt, hc⟩ := hx h0
    injection e with e
    subst e
    obtain ⟨W2, h1, h2, h3, h4⟩ := copied b off cap ss w (fun _ => hlt) hc
    exact ⟨W2, h1, h2, fun _ => ⟨w.heap.size, 0, rfl, h3, fun j h => by rw [Nat.zero_add]; exact h4 j h⟩⟩
  · have : ss = [] := List.length_eq_zero_iff.1 (by omega)
    subst this
    exact ⟨_, fun ty => run_copy_none _ 22 22 ty 9 _ (some a) 0 0 0 cap Tryf.underlying22 size9 rfl, (Below.refl _ _).alloc (Nat.le_refl _) _, fun h => absurd h (by simp)⟩
/-- block B is a row of N cells of the call's own; the first hold the strings ss -/
structure RowAt (W : World) (B N : Nat) (ss : List ByteArray) : Prop where
  lt : B < W.heap.size
  le : ss.length ≤ N
  some : ∀ j, j < N → (W.cell? ⟨B, j, none⟩).isSome = true
  free : ∀ j, j < N → W.frozen? ⟨B, j, none⟩ = false
  cell : ∀ j (h : j < ss.length), W.cell? ⟨B, j, none⟩ = .some (.string (ss[j]'h))
theorem RowAt.kept {W W' : World} {B N : Nat} {ss : List ByteArray} {row : Option Nat} (h : RowAt W B N ss) (hg : W.grownBy W' row) (hne : Option.some B ≠ row) : RowAt W' B N ss where
  lt := Nat.lt_of_lt_of_le h.lt hg.size
  le := h.le
  some j hj := by rw [World.cell?_of_block (hg.block B h.lt hne)]; exact h.some j hj
  free j hj := by rw [World.frozen?_of_block (hg.block B h.lt hne)]; exact h.free j hj
  cell j hj := by rw [World.cell?_of_block (hg.block B h.lt hne)]; exact h.cell j hj
theorem RowAt.slice {W : World} {B N : Nat} {ss : List ByteArray} (h : RowAt W B N ss) : SliceOf W (Option.some ⟨B, 0, none⟩) ss :=
  fun _ => ⟨B, 0, rfl, h.lt, fun j hj => by rw [Nat.zero_add]; exact h.cell j hj⟩
theorem row_made (w : World) (N : Nat) : RowAt (w.alloc (.cells (mk0 N) 9)) w.heap.size N [] where
  lt := by simp
  le := Nat.zero_le _
  some j hj := by have := mk0_some w N j hj; rwa [Nat.zero_add] at this
  free j _ := World.frozen?_alloc_new _ _ _ _
  cell j h := absurd h (Nat.not_lt_zero j)
theorem run_mk0 (N : Nat) (hN : N ≤ 16777216) (W : World) : (Instr.makeSlice 22 (.int .i64 0) (.int .i64 (N : Int))).run Tryf.prog W = .ok (.slice (some ⟨W.heap.size, 0, none⟩) 0 N) (W.alloc (.cells (mk0 N) 9)) :=
  run_make_room 22 9 (.string ⟨#[]⟩) 16 Tryf.underlying22 info9 rfl .i64 .i64 N (by omega) (by omega) W
/-- 'ab = append(ab, s)' with room -/
theorem appended (W : World) (B N : Nat) (ss : List ByteArray) (s : ByteArray) (h : RowAt W B N ss) (hr : ss.length < N) :
    ∃ W2 : World, (∀ ty, (Builtin.append_ #[22, 22] ty #[.slice (some ⟨B, 0, none⟩) ss.length N, .slice (some ⟨W.heap.size, 0, none⟩) 1 1]).run Tryf.prog (W.alloc (.cells #[.string s] 9)) = .ok (.slice (some ⟨B, 0, none⟩) (ss.length + 1) N) W2) ∧
      RowAt W2 B N (ss ++ [s]) ∧ W.grownBy W2 (some B) := by
  obtain ⟨i, hi, hzz⟩ := Option.map_eq_some_iff.1 info9
  simp only [Prod.mk.injEq] at hzz
  obtain ⟨_, hs1, _⟩ := hzz
  have hg1 : W.grownBy (W.alloc (.cells #[.string s] 9)) none := World.grownBy_alloc W _ none
  have h1 := h.kept hg1 (by simp)
  refine ⟨(W.alloc (.cells #[.string s] 9)).setCell ⟨B, ss.length, none⟩ (.string s), fun ty => ?_, ?_, ?_⟩
  · have := run_append_room_cells (P := Tryf.prog) (W.alloc (.cells #[.string s] 9)) 22 ty 9 i Tryf.underlying22 hi B 0 ss.length N ⟨W.heap.size, 0, none⟩ 1 1 [.string s] (by rw [hs1]; rfl)
      (fun j u hj => by
        have : j = 0 := by have := (List.getElem?_eq_some_iff.1 hj).1; simp at this; omega
        subst this
        simp at hj; subst hj
        exact World.cell?_alloc_mark W #[.string s] 9 (0, 0) 0)
      (fun u hu => by simp at hu; subst hu; rfl) (by omega)
      (fun j hj => by simp at hj; subst hj; rw [hs1]; simpa using h1.some ss.length hr)
      (fun j hj => by simp at hj; subst hj; rw [hs1]; simpa using h1.free ss.length hr)
    rw [this, hs1]
    simp [World.setCells]
  · refine ⟨?_, by simp; omega, fun j hj => ?_, fun j hj => by rw [World.frozen?_setCell]; exact h1.free j hj, fun j hj => ?_⟩
    · have := (below_setCells (B := 0) (Nat.zero_le B) [.string s] ss.length (W.alloc (.cells #[.string s] 9)) (Below.refl 0 _)).size
      exact Nat.lt_of_lt_of_le h1.lt this
    · by_cases e : j = ss.length
      · subst e
        obtain ⟨u, hu⟩ := Option.isSome_iff_exists.1 (h1.some _ hj)
        rw [World.cell?_setCell_same _ _ _ hu]; rfl
      · rw [World.cell?_setCell_other _ _ _ _ (by intro e'; injection e' with _ e2; exact e e2.symm)]
        exact h1.some j hj
    · rw [List.getElem_append]
      by_cases e : j = ss.length
      · subst e
        obtain ⟨u, hu⟩ := Option.isSome_iff_exists.1 (h1.some _ hr)
        rw [dif_neg (by omega), World.cell?_setCell_same _ _ _ hu]; simp
      · have hj' : j < ss.length := by simp at hj; omega
        rw [dif_pos hj', World.cell?_setCell_other _ _ _ _ (by intro e'; injection e' with _ e2; exact e e2.symm)]
        exact h1.cell j hj'
  · have hb := below_setCells (B := 0) (Nat.zero_le B) [.string s] ss.length (W.alloc (.cells #[.string s] 9)) (Below.refl 0 _)
    refine ⟨rfl, rfl, rfl, Nat.le_trans hg1.size hb.size, fun k hk hne => ?_⟩
    rw [Below.heap_setCell _ _ _ k (by intro e; exact hne (by rw [e]))]
    exact hg1.block k hk (by simp)
set_option maxHeartbeats 2000000 in
theorem zz9_any (x y : Option Addr) (ca cb : Nat) (sa sb : List ByteArray) (w : World) (hna : sa.length ≤ maxLen) (hnb : sb.length ≤ maxLen)
    (hx : SliceOf w x sa) (hy : SliceOf w y sb) (hsa : ∀ s ∈ sa, s.size ≤ maxLen) (hsb : ∀ s ∈ sb, s.size ≤ maxLen) :
    Calls Tryf.prog 9 #[.slice x sa.length ca, .slice y sb.length cb] w fun e w' => zzR (small sa ∧ small sb) e ∧ w' = w := by
  have HX := Lib.hid hx
  have HY := Lib.hid hy
  have HSA := Lib.hid hsa
  have HSB := Lib.hid hsb
  obtain ⟨la, hla⟩ : ∃ la, la = sa.length := ⟨_, rfl⟩
  obtain ⟨lb, hlb⟩ : ∃ lb, lb = sb.length := ⟨_, rfl⟩
  rw [← hla] at hna ⊢
  rw [← hlb] at hnb ⊢
  have HLA := Lib.hid hla
  have HLB := Lib.hid hlb
  clear hx hy hsa hsb hla hlb
  unfold maxLen at hna hnb
  by_cases hbig : la ≤ 1048576
  · go_enter Tryf.func9, Tryf.ntmps9
    go_wp2
    go_loop [5, 6] (fun vn vi => ∃ (k : Nat) (z : Int), vn = .int .i64 z ∧ vi = .int .i64 k ∧ k ≤ la ∧ 0 ≤ z ∧ z ≤ 1048576 ∧ Hid (∀ j (h : j < sa.length), j < k → (sa[j]'h).size ≤ 1048576)) (fun _ vi => la - (intOf vi).toNat)
    case atStart => exact ⟨0, _, rfl, rfl, by omega, by omega, by omega, fun j _ h => absurd h (Nat.not_lt_zero j)⟩
    case round =>
      obtain ⟨k, z, rfl, rfl, hk, hz0, hz1, hm⟩ := hrel
      by_cases hlt : k < la
      · have hlt' : k < sa.length := by have := HLA.out; omega
        obtain ⟨b, off, hxe, hblt, hc⟩ := HX.out (by omega)
        subst hxe
        have hcx := hc k hlt'
        have hsm := HSA.out _ (List.getElem_mem hlt')
        generalize hs : sa[k]'hlt' = s at hcx hsm
        have HS := Lib.hid hs
        clear hs hc
        unfold maxLen at hsm
        by_cases h1 : s.size ≤ 1048576
        · by_cases h2 : z + s.size ≤ 1048576
          · have HN : Hid (∀ j (h : j < sa.length), j < k + 1 → (sa[j]'h).size ≤ 1048576) := fun j h hj => by
              by_cases e : j = k
              · subst e; rw [HS.out]; exact h1
              · exact hm.out j h (by omega)
            clear hm
            go_wp2
            go_round
            case rel => exact ⟨k + 1, z + s.size, rfl, by go_num, by omega, by omega, by omega, HN⟩
            case measure => simp [intOf]; omega
          · clear hm
            go_wp2
            go_ret
            exact ⟨zzR_no, rfl⟩
        · clear hm
          go_wp2
          go_ret
          exact ⟨zzR_no, rfl⟩
      · have HN : Hid (small sa) := ⟨by have := HLA.out; omega, fun s hs => by
          obtain ⟨j, hj, rfl⟩ := List.getElem_of_mem hs
          exact hm.out j hj (by have := HLA.out; omega)⟩
        clear hm
        by_cases hbig2 : lb ≤ 1048576
        · by_cases hsum : z + lb ≤ 1048576
          · go_wp2
            go_loop [5, 7] (fun vn vi => ∃ (k : Nat) (z : Int), vn = .int .i64 z ∧ vi = .int .i64 k ∧ k ≤ lb ∧ 0 ≤ z ∧ z ≤ 1048576 ∧ Hid (∀ j (h : j < sb.length), j < k → (sb[j]'h).size ≤ 1048576)) (fun _ vi => lb - (intOf vi).toNat)
            case atStart => exact ⟨0, _, rfl, rfl, by omega, by omega, by omega, fun j _ h => absurd h (Nat.not_lt_zero j)⟩
            case round =>
              obtain ⟨k2, z2, rfl, rfl, hk2, hz02, hz12, hm⟩ := hrel
              by_cases hlt2 : k2 < lb
              · have hlt' : k2 < sb.length := by have := HLB.out; omega
                obtain ⟨b, off, hye, hblt, hc⟩ := HY.out (by omega)
                subst hye
                have hcx := hc k2 hlt'
                have hsm := HSB.out _ (List.getElem_mem hlt')
                generalize hs : sb[k2]'hlt' = s at hcx hsm
                have HS := Lib.hid hs
                clear hs hc
                unfold maxLen at hsm
                by_cases h1 : s.size ≤ 1048576
                · by_cases h2 : z2 + s.size ≤ 1048576
                  · have HN2 : Hid (∀ j (h : j < sb.length), j < k2 + 1 → (sb[j]'h).size ≤ 1048576) := fun j h hj => by
                      by_cases e : j = k2
                      · subst e; rw [HS.out]; exact h1
                      · exact hm.out j h (by omega)
                    clear hm
                    go_wp2
                    go_round
                    case rel => exact ⟨k2 + 1, z2 + s.size, rfl, by go_num, by omega, by omega, by omega, HN2⟩
                    case measure => simp [intOf]; omega
                  · clear hm
                    go_wp2
                    go_ret
                    exact ⟨zzR_no, rfl⟩
                · clear hm
                  go_wp2
                  go_ret
                  exact ⟨zzR_no, rfl⟩
              · have HN2 : Hid (small sb) := ⟨by have := HLB.out; omega, fun s hs => by
                  obtain ⟨j, hj, rfl⟩ := List.getElem_of_mem hs
                  exact hm.out j hj (by have := HLB.out; omega)⟩
                clear hm
                go_wp2
                go_ret
                exact ⟨zzR_yes ⟨HN.out, HN2.out⟩, rfl⟩
          · go_wp2
            go_ret
            exact ⟨zzR_no, rfl⟩
        · go_wp2
          go_ret
          exact ⟨zzR_no, rfl⟩
  · go_enter Tryf.func9, Tryf.ntmps9
    go_wp2
    go_ret
    exact ⟨zzR_no, rfl⟩
end Go.Proofs.Qxb6613197aFmt
