import Derived.Test.Qxb6613197aFmtBytes
import Derived.Deep.OwnRows
import Derived.Laws.IdiomCopy
import Derived.Laws.IdiomStrings
namespace Go.Proofs.Qxb6613197aFmt
open Go.RowKit Go.Extern.Stop Go.Stop Go.Extern Go.WideMaps Go.Maps Go.Deep
theorem info9 : (Tryf.prog.info? 9).map (fun i => (i.zero, i.size, i.bytes)) = some (some (.string ⟨#[]⟩), 1, 16) := by kernel_rfl
theorem size9 : (Tryf.prog.info? 9).map (·.size) = some 1 := by kernel_rfl
/-- the cells that make([]string, n) lays -/
def mk0 (n : Nat) : Array Value := madeCells #[.string ⟨#[]⟩] n
theorem run_mk (n : Nat) (hn : n ≤ 16777216) (W : World) : (Instr.makeSlice 22 (.int .i64 (n : Int)) (.int .i64 (n : Int))).run Tryf.prog W = .ok (.slice (some ⟨W.heap.size, 0, none⟩) n n) (W.alloc (.cells (mk0 n) 9)) :=
  run_make_row' 22 9 (.string ⟨#[]⟩) 16 Tryf.underlying22 info9 rfl .i64 .i64 n (by omega) (by omega) W
theorem mk0_some (w : World) (n j : Nat) (h : j < n) : ((w.alloc (.cells (mk0 n) 9)).cell? ⟨w.heap.size, 0 + j, none⟩).isSome = true := by
  rw [World.cell?_alloc_mark, Nat.zero_add]
  have : (mk0 n).size = n := size_madeCells _ _
  simp [this, h]
theorem below_setCells {B b : Nat} {a : World} (hB : B ≤ b) : ∀ (vs : List Value) (o : Nat) (w : World), Below B a w → Below B a (w.setCells b o vs)
  | [], _, _, h => h
  | v :: r, o, _, h => below_setCells hB r (o + 1) _ (h.setCell (p := ⟨b, o, none⟩) hB v)
theorem adr (b o j : Nat) : (Addr.mk b o none).add j = ⟨b, o + j, none⟩ := by
  unfold Addr.add
  by_cases h : j = 0
  · rw [if_pos h, h]; rfl
  · rw [if_neg h]
/-- copy(zzc, ss): a world of its own, in which the new row holds the strings -/
theorem copied (b off cap : Nat) (ss : List ByteArray) (w : World) (hb : ss ≠ [] → b < w.heap.size)
    (hc : ∀ j (h : j < ss.length), w.cell? ⟨b, off + j, none⟩ = some (.string (ss[j]'h))) :
    ∃ W2 : World, (∀ ty, (Builtin.copy_ #[22, 22] ty #[.slice (some ⟨w.heap.size, 0, none⟩) ss.length ss.length, .slice (some ⟨b, off, none⟩) ss.length cap]).run Tryf.prog (w.alloc (.cells (mk0 ss.length) 9)) = .ok (.int .i64 (ss.length : Int)) W2) ∧
      Below w.heap.size w W2 ∧ w.heap.size < W2.heap.size ∧ ∀ j (h : j < ss.length), W2.cell? ⟨w.heap.size, j, none⟩ = some (.string (ss[j]'h)) := by
  have hal : Below w.heap.size w (w.alloc (.cells (mk0 ss.length) 9)) := (Below.refl _ _).alloc (Nat.le_refl _) _
  refine ⟨(w.alloc (.cells (mk0 ss.length) 9)).setCells w.heap.size 0 (ss.map Value.string), fun ty => ?_, below_setCells (Nat.le_refl _) _ _ _ hal, ?_, fun j h => ?_⟩
  · have := run_copy_cells (P := Tryf.prog) (w.alloc (.cells (mk0 ss.length) 9)) 22 22 ty 9 w.heap.size 0 ss.length ss.length ⟨b, off, none⟩ ss.length cap (ss.map Value.string) Tryf.underlying22 size9 (by simp)
      (fun j v hj => by
        obtain ⟨h1, h2⟩ := List.getElem?_eq_some_iff.1 hj
        simp only [List.length_map] at h1
        rw [adr, hal.cell (p := ⟨b, off + j, none⟩) (hb (by intro e; subst e; simp at h1)), hc j h1, ← h2]; simp)
      (fun j hj => mk0_some w _ j (by simpa using hj)) (fun j hj => World.frozen?_alloc_new _ _ _ _)
      (fun v hv => by obtain ⟨s, _, rfl⟩ := List.mem_map.1 hv; rfl)
    rw [this]; simp [goInt]
  · have h1 := (below_setCells (B := 0) (Nat.zero_le w.heap.size) (ss.map Value.string) 0 (w.alloc (.cells (mk0 ss.length) 9)) (Below.refl 0 _)).size
    have h2 : (w.alloc (.cells (mk0 ss.length) 9)).heap.size = w.heap.size + 1 := by simp
    omega
  · have := World.cell?_setCells_in w.heap.size (ss.map Value.string) 0 (w.alloc (.cells (mk0 ss.length) 9)) (fun j hj => mk0_some w _ j (by simpa using hj)) j (by simpa using h)
    rw [Nat.zero_add] at this
    rw [this]; simp
theorem neq_err (a : Addr) (W : World) : (binOp .neq 25 (.iface 62 (.pointer (some a))) .nilIface).run Tryf.prog W = .ok (.bool true) W := by kernel_rfl
theorem neq_nil (W : World) : (binOp .neq 25 .nilIface .nilIface).run Tryf.prog W = .ok (.bool false) W := by kernel_rfl
/-- 'CheckServers(ss, nil) != nil' -/
theorem cs_neq {ss : List ByteArray} {r : Value} (h : csR ss r) (W : World) : (binOp .neq 25 r .nilIface).run Tryf.prog W = .ok (.bool (dupB ss)) W := by
  unfold csR at h
  cases hd : dupB ss with
  | true => rw [hd, if_pos rfl] at h; obtain ⟨N, rfl⟩ := h; exact neq_err _ W
  | false => rw [hd, if_neg (by decide)] at h; subst h; exact neq_nil W
theorem guard_err (n : Nat) (a : Addr) (W : World) : (eqGuard .neq 25 (.tmp n) (.const .nilIface) (.iface 62 (.pointer (some a))) .nilIface).run Tryf.prog W = .ok () W := by kernel_rfl
theorem guard_nil (n : Nat) (W : World) : (eqGuard .neq 25 (.tmp n) (.const .nilIface) .nilIface .nilIface).run Tryf.prog W = .ok () W := by kernel_rfl
theorem cs_guard {ss : List ByteArray} {r : Value} (h : csR ss r) (n : Nat) (W : World) : (eqGuard .neq 25 (.tmp n) (.const .nilIface) r .nilIface).run Tryf.prog W = .ok () W := by
  unfold csR at h
  cases hd : dupB ss with
  | true => rw [hd, if_pos rfl] at h; obtain ⟨N, rfl⟩ := h; exact guard_err n _ W
  | false => rw [hd, if_neg (by decide)] at h; subst h; exact guard_nil n W
/-- the pairs looked at so far: all before i, and (i, j') for j' < j -/
def apartTo (ss : List ByteArray) (i : Nat) : Prop := ∀ p q (hp : p < ss.length) (hq : q < ss.length), p < i → p < q → (ss[p]'hp).data.toList ≠ (ss[q]'hq).data.toList
theorem dup_of_pair {ss : List ByteArray} {p q : Nat} (hp : p < ss.length) (hq : q < ss.length) (h : p < q) (he : (ss[p]'hp).data.toList = (ss[q]'hq).data.toList) : dupB ss = true := by
  unfold dupB
  have : ¬ (kk ss).Nodup := fun hn => by
    unfold List.Nodup at hn
    rw [List.pairwise_iff_getElem] at hn
    exact hn p q (by simpa [kk] using hp) (by simpa [kk] using hq) h (by simpa [kk] using he)
  simp [this]
theorem nodup_of_apart {ss : List ByteArray} (h : apartTo ss ss.length) : dupB ss = false := by
  unfold dupB
  have : (kk ss).Nodup := by
    unfold List.Nodup
    rw [List.pairwise_iff_getElem]
    intro i j hi hj hij
    simp only [kk, List.length_map] at hi hj
    simpa [kk] using h i j hi hj hi hij
  simp [this]
theorem bytes_eq {a b : ByteArray} (h : (a.toList == b.toList) = true) : a.data.toList = b.data.toList := by
  rw [ByteArray.toList_eq, ByteArray.toList_eq] at h; exact eq_of_beq h
theorem bytes_ne {a b : ByteArray} (h : (a.toList == b.toList) = false) : a.data.toList ≠ b.data.toList := by
  rw [ByteArray.toList_eq, ByteArray.toList_eq] at h
  intro e; rw [e] at h; simp at h
theorem check_at (F : Interp) (b off cap len : Nat) (ss : List ByteArray) (hl : len = ss.length) (w : World) (hF : F.answers w.tape) (hn : ss.length ≤ 16777216) (hb : b < w.heap.size)
    (hc : ∀ j (h : j < ss.length), w.cell? ⟨b, off + j, none⟩ = some (.string (ss[j]'h))) (hsz : ∀ s ∈ ss, s.size ≤ maxLen) :
    Calls Tryf.prog 8 #[.slice (some ⟨b, off, none⟩) len cap, .nilFunc] w fun e w' => ∃ r, e = .returned r ∧ csR ss r ∧ Below w.heap.size w w' := by
  rw [hl]; exact check_any F b off cap ss w hF hn hb hc hsz
set_option maxRecDepth 100000 in
set_option maxHeartbeats 2000000 in
theorem main3_some (F : Interp) (b off cap : Nat) (ss : List ByteArray) (w : World) (hF : F.answers w.tape) (hm : ss.length ≤ maxLen) (hb : ss ≠ [] → b < w.heap.size)
    (hc : ∀ j (h : j < ss.length), w.cell? ⟨b, off + j, none⟩ = some (.string (ss[j]'h))) (hsz : ∀ s ∈ ss, s.size ≤ maxLen) :
    Calls Tryf.prog 3 #[.slice (some ⟨b, off, none⟩) ss.length cap] w fun e w' => e = .returned (.bool true) ∧ Below w.heap.size w w' := by
  obtain ⟨W2, hcp, hB2, hs2, hc2⟩ := copied b off cap ss w hb hc
  have HZ7 := Lib.hid (zz7_any b off cap ss w hm hc hsz)
  have HF2 : Hid (F.answers W2.tape) := by unfold Hid; rw [hB2.tape]; exact hF
  have HB2 := Lib.hid hB2
  have HC2 := Lib.hid hc2
  have HSZ := Lib.hid hsz
  have hmk := run_mk
  have hnn : ∀ W, (binOp .neq 22 (.slice (some ⟨b, off, none⟩) ss.length cap) (.slice none 0 0)).run Tryf.prog W = .ok (.bool true) W := fun W => run_neq_slice_nil_any W 22 9 _ _ _ 0 0 Tryf.underlying22
  obtain ⟨len, hlen⟩ : ∃ len, len = ss.length := ⟨_, rfl⟩
  rw [← hlen] at HZ7 hcp hm hnn ⊢
  have HL := Lib.hid hlen
  clear hc hsz hlen hF hB2 hc2 hb
  unfold maxLen at hm
  by_cases h4 : len ≤ 4096
  · have hmk' := hmk len (by omega)
    clear hmk
    go_enter Tryf.func3, Tryf.ntmps3
    go_wp2_with (go_at_call 7; refine HZ7.out.mono ?_; rintro e w' ⟨⟨r, rfl, hr⟩, hw⟩; replace hw := hw.symm; subst hw)
    · go_ret
      exact ⟨rfl, Below.refl _ _⟩
    have hsm : small ss := hr (by simpa using ‹(!r) = false›)
    have HSM := Lib.hid hsm
    clear hr hsm hcp hmk' hnn HZ7
    go_loop [4, 5] (fun vn vi => ∃ (k : Nat) (z : Int), vn = .int .i64 z ∧ vi = .int .i64 k ∧ k ≤ len ∧ 0 ≤ z ∧ z ≤ 1048576) (fun _ vi => len - (intOf vi).toNat)
    case atStart => exact ⟨0, 0, rfl, rfl, by omega, by omega, by omega⟩
    case round =>
      obtain ⟨k, z, rfl, rfl, hk, hz0, hz1⟩ := hrel
      by_cases hlt : k < len
      · have hlt' : k < ss.length := by have := HL.out; omega
        have hcx := HC2.out k hlt'
        have hsm := HSM.out.2 _ (List.getElem_mem hlt')
        generalize ss[k]'hlt' = s at hcx hsm
        by_cases h2 : z + (16 + s.size) ≤ 1048576
        · go_wp2
          go_round
          case rel => exact ⟨k + 1, z + (16 + s.size), rfl, by go_num, by omega, by omega, by omega⟩
          case measure => simp [intOf]; omega
        · go_wp2
          go_ret
          exact ⟨rfl, HB2.out⟩
      · have HCK := Lib.hid (check_at F w.heap.size 0 len len ss HL.out W2 HF2.out (by have := HL.out; omega) hs2 (fun j h => by rw [Nat.zero_add]; exact HC2.out j h) HSZ.out)
        go_wp2_with fail
        refine HCK.out.mono ?_
        rintro e w3 ⟨r3, rfl, hcs, hb3⟩
        have hneq := cs_neq hcs
        have hgrd := cs_guard hcs
        have HB3 : Hid (Below w.heap.size w w3) := HB2.out.trans (hb3.mono (Nat.le_of_lt hs2))
        have HC3 : Hid (∀ j (h : j < ss.length), w3.cell? ⟨w.heap.size, j, none⟩ = some (.string (ss[j]'h))) := fun j h => by
          rw [hb3.cell (p := ⟨w.heap.size, j, none⟩) hs2]; exact HC2.out j h
        obtain ⟨D, hD⟩ : ∃ D, D = dupB ss := ⟨_, rfl⟩
        rw [← hD] at hneq
        have HD := Lib.hid hD
        clear hcs hD hb3 HCK HC2 HB2 HF2 hs2
        go_wp2
        go_loopw [7, 8] (fun vr vi wr => ∃ (k : Nat) (b : Bool), vr = .bool b ∧ vi = .int .i64 k ∧ k ≤ len ∧ Hid (∃ m, wr = w3.drewN m) ∧ Hid (b = true → D = true) ∧ Hid (b = false → apartTo ss k)) (fun _ vi _ => len - (intOf vi).toNat)
        case atStart => exact ⟨0, false, rfl, rfl, by omega, ⟨0, rfl⟩, fun h => absurd h (by decide), fun _ p q _ _ h => absurd h (Nat.not_lt_zero p)⟩
        case round =>
          obtain ⟨k2, b2, rfl, rfl, hk2, hwr, hbt, hbf⟩ := hrel
          obtain ⟨m1, hm1⟩ := hwr.out
          subst hm1
          have HBB : Hid (∀ m, Below w.heap.size w (w3.drewN m)) := fun m => below_drewN HB3.out m
          cases b2 with
          | true =>
            have hDt := hbt.out rfl
            clear hbt hbf hwr
            subst hDt
            by_cases hlt2 : k2 < len
            all_goals
              go_wp2
              go_ret
              exact ⟨rfl, HBB.out _⟩
          | false =>
            by_cases hlt2 : k2 < len
            · have HBF := Lib.hid (hbf.out rfl)
              clear hbt hbf hwr
              have hlt2' : k2 < ss.length := by have := HL.out; omega
              go_wp2
              go_loopw [7, 9] (fun vr vj wr => ∃ (m : Nat), vr = .bool false ∧ vj = .int .i64 m ∧ k2 < m ∧ m ≤ len ∧ Hid (∃ n, wr = w3.drewN n) ∧ Hid (∀ q (hq : q < ss.length), k2 < q → q < m → (ss[k2]'hlt2').data.toList ≠ (ss[q]'hq).data.toList)) (fun _ vj _ => len - (intOf vj).toNat)
              case atStart => exact ⟨k2 + 1, rfl, by go_num, by omega, by omega, ⟨m1, rfl⟩, fun q _ h1 h2 => by omega⟩
              case round =>
                obtain ⟨m, rfl, rfl, hmk, hml, hwr, hne⟩ := hrel
                obtain ⟨m2, hm2⟩ := hwr.out
                subst hm2
                clear hwr
                by_cases hlt3 : m < len
                · have hlt3' : m < ss.length := by have := HL.out; omega
                  have g1 := HC3.out k2 hlt2'
                  have g2 := HC3.out m hlt3'
                  have i1 : (k2 : Int) < (len : Int) := by omega
                  have i2 : (m : Int) < (len : Int) := by omega
                  go_wp2
                  go_quiet (fail)
                  go_wp2
                  · have he : ((ss[k2]'hlt2').toList == (ss[m]'hlt3').toList) = true := by assumption
                    have HT : Hid (D = true) := by rw [HD.out]; exact dup_of_pair hlt2' hlt3' hmk (bytes_eq he)
                    exact ⟨⟨k2 + 1, true, rfl, by go_num, by omega, ⟨_, rfl⟩, fun _ => HT.out, fun h => absurd h (by decide)⟩, by simp [intOf]; omega⟩
                  · have he : ((ss[k2]'hlt2').toList == (ss[m]'hlt3').toList) = false := by assumption
                    have HN : Hid (∀ q (hq : q < ss.length), k2 < q → q < m + 1 → (ss[k2]'hlt2').data.toList ≠ (ss[q]'hq).data.toList) := fun q hq h1 h2 => by
                      by_cases e : q = m
                      · subst e; exact bytes_ne he
                      · exact hne.out q hq h1 (by omega)
                    exact ⟨⟨m + 1, rfl, by go_num, by omega, by omega, ⟨_, rfl⟩, HN⟩, by simp [intOf]; omega⟩
                · have HN : Hid (apartTo ss (k2 + 1)) := fun p q hp hq h1 h2 => by
                    by_cases e : p = k2
                    · subst e; exact hne.out q hq h2 (by have := HL.out; omega)
                    · exact HBF.out p q hp hq (by omega) h2
                  clear hne
                  go_wp2
                  exact ⟨⟨k2 + 1, false, rfl, by go_num, by omega, ⟨_, rfl⟩, fun h => absurd h (by decide), fun _ => HN.out⟩, by simp [intOf]; omega⟩
            · have hDf : D = false := by rw [HD.out]; exact nodup_of_apart (by have := hbf.out rfl; rwa [show k2 = ss.length by have := HL.out; omega] at this)
              clear hbt hbf hwr HD
              subst hDf
              go_wp2
              go_ret
              exact ⟨rfl, HBB.out _⟩
  · go_enter Tryf.func3, Tryf.ntmps3
    go_wp2_with (go_at_call 7; refine HZ7.out.mono ?_; rintro e w' ⟨⟨r, rfl, hr⟩, hw⟩; replace hw := hw.symm; subst hw)
    all_goals
      go_ret
      exact ⟨rfl, Below.refl _ _⟩
set_option maxHeartbeats 1000000 in
theorem zz7_zero (a : Option Addr) (cap : Nat) (w : World) : Calls Tryf.prog 7 #[.slice a 0 cap] w fun e w' => e = .returned (.bool true) ∧ w' = w := by
  go_enter Tryf.func7, Tryf.ntmps7
  go_wp2
  refine wp_loop_rounds 1 ?_
  rw [rounds_succ]
  go_wp2
  go_ret
  exact ⟨rfl, rfl⟩
set_option maxHeartbeats 1000000 in
theorem check_zero (a : Option Addr) (cap : Nat) (w : World) : Calls Tryf.prog 8 #[.slice a 0 cap, .nilFunc] w fun e w' => e = .returned .nilIface ∧ Below w.heap.size w w' := by
  have hmm := run_makeHint
  go_enter Tryf.func8, Tryf.ntmps8
  go_wp2
  refine wp_loop_rounds 1 ?_
  rw [rounds_succ]
  go_wp2
  go_ret
  exact ⟨rfl, (Below.refl _ _).alloc (Nat.le_refl _) _⟩
set_option maxHeartbeats 1000000 in
theorem main3_nil (w : World) : Calls Tryf.prog 3 #[.slice none 0 0] w fun e w' => e = .returned (.bool true) ∧ Below w.heap.size w w' := by
  have hnn : ∀ W, (binOp .neq 22 (.slice none 0 0) (.slice none 0 0)).run Tryf.prog W = .ok (.bool false) W := fun W => run_neq_slice_nil_any W 22 9 none 0 0 0 0 Tryf.underlying22
  go_enter Tryf.func3, Tryf.ntmps3
  go_wp2_with (go_at_call 7; refine (zz7_zero _ _ _).mono ?_; rintro e w' ⟨rfl, hw⟩; replace hw := hw.symm; subst hw)
  refine wp_loop_rounds 1 ?_
  rw [rounds_succ]
  go_wp2_with (go_at_call 8; refine (check_zero _ _ _).mono ?_; rintro e w3 ⟨rfl, hb3⟩)
  refine wp_loop_rounds 1 ?_
  rw [rounds_succ]
  go_wp2
  go_ret
  exact ⟨rfl, hb3⟩
set_option maxHeartbeats 1000000 in
theorem main3_zero (a : Addr) (cap : Nat) (w : World) : Calls Tryf.prog 3 #[.slice (some a) 0 cap] w fun e w' => e = .returned (.bool true) ∧ Below w.heap.size w w' := by
  have hnn : ∀ W, (binOp .neq 22 (.slice (some a) 0 cap) (.slice none 0 0)).run Tryf.prog W = .ok (.bool true) W := fun W => run_neq_slice_nil_any W 22 9 (some a) _ _ 0 0 Tryf.underlying22
  have hmk : ∀ W, (Instr.makeSlice 22 (.int .i64 0) (.int .i64 0)).run Tryf.prog W = .ok (.slice (some ⟨W.heap.size, 0, none⟩) 0 0) (W.alloc (.cells (mk0 0) 9)) := fun W => run_mk 0 (by omega) W
  have hcp : ∀ ty W d, (Builtin.copy_ #[22, 22] ty #[.slice d 0 0, .slice (some a) 0 cap]).run Tryf.prog W = .ok (.int .i64 0) W := fun ty W d => run_copy_none W 22 22 ty 9 d (some a) 0 0 0 cap Tryf.underlying22 size9 rfl
  go_enter Tryf.func3, Tryf.ntmps3
  go_wp2_with (go_at_call 7; refine (zz7_zero _ _ _).mono ?_; rintro e w' ⟨rfl, hw⟩; replace hw := hw.symm; subst hw)
  refine wp_loop_rounds 1 ?_
  rw [rounds_succ]
  go_wp2_with (go_at_call 8; refine (check_zero _ _ _).mono ?_; rintro e w3 ⟨rfl, hb3⟩)
  refine wp_loop_rounds 1 ?_
  rw [rounds_succ]
  go_wp2
  go_ret
  exact ⟨rfl, ((Below.refl _ _).alloc (Nat.le_refl _) _).trans (hb3.mono (by simp))⟩
end Go.Proofs.Qxb6613197aFmt
