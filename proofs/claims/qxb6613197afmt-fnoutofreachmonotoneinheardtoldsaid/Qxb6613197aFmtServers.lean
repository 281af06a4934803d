import Derived.Test.Qxb6613197aFmtRows
import Derived.Test.Qxb6613197aFmtFacts
import Derived.WalkKit
import Derived.WalkSpells
import Derived.WalkLawsBesides
import Derived.LoopTactic
import Derived.Outline
import Derived.BigQuiet
import Derived.Deep.QuietTactic
import Derived.Maps.OwnSet
import Derived.Lib.Hide
namespace Go.Proofs.Qxb6613197aFmt
open Go.RowKit Go.Extern.Stop Go.Stop Go.Extern Go.WideMaps Go.Maps
theorem ret_int {k : IntKind} {a b : Int} (h : a = b) : Ending.returned (.int k a) = .returned (.int k b) := by rw [h]
theorem ret_bool {a b : Bool} (h : a = b) : Ending.returned (.bool a) = .returned (.bool b) := by rw [h]
set_option maxHeartbeats 400000 in
theorem errorf_twice (F : Interp) (s : ByteArray) (blk : Nat) (w : World) (hF : F.answers w.tape) (hc0 : w.cell? ⟨blk, 0, none⟩ = some (.iface 9 (.string s))) :
    Calls Tryf.prog 14 #[.string ⟨#[37, 113, 32, 105, 115, 32, 108, 105, 115, 116, 101, 100, 32, 116, 119, 105, 99, 101]⟩, .slice (some ⟨blk, 0, none⟩) 1 1] w fun e w' =>
      e = .returned (.iface 62 (.pointer (some ⟨w.heap.size, 0, none⟩))) ∧ Below w.heap.size w w' := by
  have hF' := answers_open hF
  go_enter Tryf.func14, Tryf.ntmps14
  go_wp2
  go_ret
  exact ⟨rfl, ((Below.refl _ _).alloc (Nat.le_refl _) _).drew⟩
theorem law9 : Keyed Tryf.prog 9 := string_keyed Tryf.underlying9
theorem zero4 (w : World) : (zeroValue 4).run Tryf.prog w = .ok (.bool false) w := by kernel_rfl
def keyL (s : ByteArray) : Lit := .string s.data.toList
/-- the set of the strings seen -/
def seenD (ss : List ByteArray) : DataW Unit := setOf (.lit (.bool true)) (ss.map keyL)
theorem run_makeHint (n : Int) (W : World) : (Instr.makeMap 36 (some (.int .i64 n))).run Tryf.prog W = .ok (.map (some W.heap.size)) (W.alloc (.map #[] 0)) := by
  simp [Instr.makeMap, run_underlying Tryf.underlying36, asInt, asIntOf, Result.andThen]
theorem plainBool_inv {e : TypeId} (he : Tryf.prog.underlying e = some .bool) {v : Value} {z : DataW Unit × List MemPlace} (h : plainElem Tryf.prog e v = some z) : ∃ x, v = .bool x ∧ z = (.lit (.bool x), []) := by
  unfold plainElem at h
  rw [he] at h
  cases v <;> simp at h
  exact ⟨_, rfl, h.symm⟩
theorem ba_inj {s t : ByteArray} (h : s.data.toList = t.data.toList) : s = t := by
  cases s; cases t; simp only [ByteArray.mk.injEq]
  exact Array.toList_inj.1 h
theorem keyL_inj {s t : ByteArray} (h : keyL s = keyL t) : s = t := by
  unfold keyL at h; injection h with h; exact ba_inj h
theorem seen_isMap (ss : List ByteArray) : IsMap (seenD ss) := (tidy_setOf _ _ (fun x hx => by
  obtain ⟨s, _, rfl⟩ := List.mem_map.1 hx; exact trivial)).isMap
theorem seen_snoc (ss : List ByteArray) (s : ByteArray) : seenD (ss ++ [s]) = (seenD ss).put (keyL s) (.lit (.bool true)) := by
  unfold seenD; rw [List.map_append, List.map_singleton, setOf_snoc]
/-- the strings as lists of bytes -/
def kk (ss : List ByteArray) : List (List UInt8) := ss.map (fun s => s.data.toList)
def memB (s : ByteArray) (ss : List ByteArray) : Bool := decide (s.data.toList ∈ kk ss)
def dupB (ss : List ByteArray) : Bool := !decide ((kk ss).Nodup)
theorem seen_at (ss : List ByteArray) (s : ByteArray) : (seenD ss).atKey (keyL s) (.lit (.bool false)) = .lit (.bool (memB s ss)) := by
  suffices H : ∀ rs : List ByteArray, (seenD rs.reverse).atKey (keyL s) (.lit (.bool false)) = .lit (.bool (decide (s.data.toList ∈ kk rs))) by
    have := H ss.reverse; rw [List.reverse_reverse] at this
    rw [this]; unfold memB kk; simp
  intro rs
  induction rs with
  | nil => rfl
  | cons r rs ih =>
    rw [List.reverse_cons, seen_snoc]
    by_cases e : s = r
    · subst e
      rw [atKey_put_same (seen_isMap _) (show WideAt.IsKeyLit (keyL s) from trivial)]; simp [kk]
    · rw [atKey_put_other (fun h => e (keyL_inj h)), ih]
      have : ¬ s.data.toList = r.data.toList := fun h => e (ba_inj h)
      congr 2
      exact decide_eq_decide.2 (by simp [kk, this])
/-- the look-up 'seen[addr]' -/
theorem seen_look {w : World} {b n : Nat} {ss : List ByteArray} (h : w.ownsMap Tryf.prog 9 (plainElem Tryf.prog 4) b n (seenD ss)) (s : ByteArray) (hs : s.size ≤ maxLen) :
    (Instr.lookup 36 (.map (some b)) (.string s) false).run Tryf.prog w = .ok (.bool (memB s ss)) w := by
  obtain ⟨v, ps, hrun, hv⟩ := h.lookup law9 Tryf.underlying36 (zero4 w) (plainElem_bool Tryf.underlying4 false) (keyOf_string_mk Tryf.underlying9 hs)
  obtain ⟨x, rfl, hx⟩ := plainBool_inv Tryf.underlying4 hv
  rw [show (Lit.string s.data.toList) = keyL s from rfl, seen_at] at hx
  simp only [Prod.mk.injEq, DataW.lit.injEq, Lit.bool.injEq] at hx
  rw [hrun, ← hx.1]
theorem nil_func (W : World) : (binOp .neq 35 .nilFunc .nilFunc).run Tryf.prog W = .ok (.bool false) W := by kernel_rfl
/-- what CheckServers(ss, nil) hands back: nil, or a new error -/
def csR (ss : List ByteArray) (r : Value) : Prop := if dupB ss = true then ∃ N, r = .iface 62 (.pointer (some ⟨N, 0, none⟩)) else r = .nilIface
theorem kk_take (ss : List ByteArray) (k : Nat) (h : k < ss.length) : kk (ss.take (k + 1)) = kk (ss.take k) ++ [(ss[k]'h).data.toList] := by
  unfold kk; rw [List.take_succ_eq_append_getElem h, List.map_append, List.map_singleton]
theorem nodup_step {ss : List ByteArray} {k : Nat} (h : k < ss.length) (hn : (kk (ss.take k)).Nodup) (hm : memB (ss[k]'h) (ss.take k) = false) : (kk (ss.take (k + 1))).Nodup := by
  rw [kk_take ss k h, List.nodup_append]
  unfold memB at hm
  simp only [decide_eq_false_iff_not] at hm
  exact ⟨hn, by simp, fun a ha b hb => by simp at hb; subst hb; intro e; exact hm (e ▸ ha)⟩
theorem dup_hit {ss : List ByteArray} {k : Nat} (h : k < ss.length) (hm : memB (ss[k]'h) (ss.take k) = true) : dupB ss = true := by
  unfold dupB
  have : ¬ (kk ss).Nodup := fun hn => by
    have h1 : (kk (ss.take (k + 1))).Nodup := by
      have e : kk (ss.take (k + 1)) = (kk ss).take (k + 1) := by unfold kk; rw [List.map_take]
      rw [e]; exact List.Nodup.sublist (List.take_sublist _ _) hn
    rw [kk_take ss k h, List.nodup_append] at h1
    unfold memB at hm
    simp only [decide_eq_true_eq] at hm
    exact h1.2.2 _ hm _ (by simp) rfl
  simp [this]
theorem cs_hit {ss : List ByteArray} {N : Nat} (h : dupB ss = true) : csR ss (.iface 62 (.pointer (some ⟨N, 0, none⟩))) := by
  unfold csR; rw [if_pos h]; exact ⟨N, rfl⟩
theorem cs_none {ss : List ByteArray} (h : (kk ss).Nodup) : csR ss .nilIface := by
  unfold csR dupB; simp [h]
set_option maxRecDepth 100000 in
set_option maxHeartbeats 1000000 in
theorem check_any (F : Interp) (b off cap : Nat) (ss : List ByteArray) (w : World) (hF : F.answers w.tape) (hn : ss.length ≤ 16777216) (hb : b < w.heap.size)
    (hc : ∀ j (h : j < ss.length), w.cell? ⟨b, off + j, none⟩ = some (.string (ss[j]'h))) (hsz : ∀ s ∈ ss, s.size ≤ maxLen) :
    Calls Tryf.prog 8 #[.slice (some ⟨b, off, none⟩) ss.length cap, .nilFunc] w fun e w' => ∃ r, e = .returned r ∧ csR ss r ∧ Below w.heap.size w w' := by
  have hmm := run_makeHint
  have hnf := nil_func
  have HC := Lib.hid hc
  have HZ := Lib.hid hsz
  have HF := Lib.hid hF
  obtain ⟨len, hlen⟩ : ∃ len, len = ss.length := ⟨_, rfl⟩
  rw [← hlen] at hn ⊢
  have HL := Lib.hid hlen
  clear hc hsz hF hlen
  go_enter Tryf.func8, Tryf.ntmps8
  go_wp2
  go_loopw [14] (fun i wr => ∃ k : Nat, k ≤ len ∧ i = .int .i64 k ∧ wr.ownsMap Tryf.prog 9 (plainElem Tryf.prog 4) w.heap.size k (seenD (ss.take k)) ∧ Below w.heap.size w wr ∧ Hid ((kk (ss.take k)).Nodup))
    (fun i _ => len - (intOf i).toNat)
  case atStart => exact ⟨0, Nat.zero_le _, rfl, World.ownsMap_made _ _ _ _, (Below.refl _ _).alloc (Nat.le_refl _) _, List.nodup_nil⟩
  case round =>
    obtain ⟨k, hk, rfl, hown, hnx, hnd⟩ := hrel
    by_cases hlt : k < len
    · have hlt' : k < ss.length := by have := HL.out; omega
      obtain ⟨s, hs⟩ : ∃ s, s = ss[k]'hlt' := ⟨_, rfl⟩
      have hcx : wr.cell? ⟨b, off + k, none⟩ = some (.string s) := by rw [hs]; exact (hnx.cell (p := ⟨b, off + k, none⟩) hb).trans (HC.out k hlt')
      have hsm : s.size ≤ maxLen := by rw [hs]; exact HZ.out _ (List.getElem_mem _)
      have hlook := seen_look hown s hsm
      have HKEY := Lib.hid (keyOf_string_mk (P := Tryf.prog) (k := 9) (s := s) Tryf.underlying9 hsm)
      have HS := Lib.hid hs
      clear hs hsm
      cases hm : memB s (ss.take k) with
      | true =>
        have HD : Hid (dupB ss = true) := dup_hit hlt' (by rw [← HS.out]; exact hm)
        have HOWN := Lib.hid hown
        have HNX := Lib.hid hnx
        have HF1 : Hid (F.answers wr.tape) := by unfold Hid; rw [hnx.tape]; exact HF.out
        clear hown hnx
        go_wp2_with (go_at_call 14; refine (errorf_twice F s _ _ (by exact HF1.out) (by go_simp)).mono ?_; rintro e w1 ⟨rfl, hb1⟩)
        go_ret
        exact ⟨_, rfl, cs_hit HD.out, (HNX.out.alloc HNX.out.size _).trans (hb1.mono (by have := HNX.out.size; simp; omega))⟩
      | false =>
        have HN : Hid ((kk (ss.take (k + 1))).Nodup) := nodup_step hlt' hnd.out (by rw [← HS.out]; exact hm)
        clear hnd
        have hst : seenD (ss.take (k + 1)) = (seenD (ss.take k)).put (keyL s) (.lit (.bool true)) := by
          rw [List.take_succ_eq_append_getElem hlt', ← HS.out, seen_snoc]
        have HST := Lib.hid hst
        have HNX := Lib.hid hnx
        have HOWN := Lib.hid hown
        clear hst hnx hown
        go_wp2_with (first
          | (at_mapUpdate; refine wpList_mapUpdate_own _ rfl _ _ _ 36 rfl 9 4 law9 Tryf.underlying36 _ w.heap.size k _ rfl HOWN.out (by unfold maxLen; omega) _ _ _ rfl rfl HKEY.out _ [] (plainElem_bool Tryf.underlying4 true) ?_; intro w1 hown1 hgrow1))
        have R1 : w1.ownsMap Tryf.prog 9 (plainElem Tryf.prog 4) w.heap.size (k + 1) (seenD (ss.take (k + 1))) := by rw [HST.out]; exact hown1
        have R2 := HNX.out.grown hgrow1 HNX.out.size (fun j hj => by cases hj; exact Nat.le_refl _)
        clear hown1 hgrow1
        go_wp2
        go_roundw
        case rel => exact ⟨k + 1, by omega, by go_num, R1, R2, HN⟩
        case measure => simp [intOf]; omega
    · have HD : Hid (csR ss .nilIface) := cs_none (by have := hnd.out; rwa [List.take_of_length_le (by have := HL.out; omega)] at this)
      have HNX := Lib.hid hnx
      clear hown hnx hnd
      go_wp2
      go_ret
      exact ⟨_, rfl, HD.out, HNX.out⟩
end Go.Proofs.Qxb6613197aFmt
