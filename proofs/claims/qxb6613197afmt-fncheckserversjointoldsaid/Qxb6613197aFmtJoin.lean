import Derived.Test.Qxb6613197aFmtJoinParts
import Derived.Deep.DeepCutAuto
namespace Go.Proofs.Qxb6613197aFmt
open Go.RowKit Go.Extern.Stop Go.Stop Go.Extern Go.WideMaps Go.Maps Go.Deep
/-- does some string stand in both lists -/
def sharedB (sa sb : List ByteArray) : Bool := (kk sa).any (fun x => decide (x ∈ kk sb))
theorem kk_append (sa sb : List ByteArray) : kk (sa ++ sb) = kk sa ++ kk sb := by unfold kk; rw [List.map_append]
theorem join_law (sa sb : List ByteArray) : dupB (sa ++ sb) = (dupB sa || dupB sb || sharedB sa sb) := by
  unfold dupB sharedB
  rw [kk_append]
  by_cases h1 : (kk sa).Nodup <;> by_cases h2 : (kk sb).Nodup
  · by_cases h3 : ∃ x ∈ kk sa, x ∈ kk sb
    · have : ¬ (kk sa ++ kk sb).Nodup := fun hn => by
        obtain ⟨x, hx, hy⟩ := h3
        exact (List.nodup_append.1 hn).2.2 x hx x hy rfl
      have h4 : ((kk sa).any fun x => decide (x ∈ kk sb)) = true := by
        rw [List.any_eq_true]; obtain ⟨x, hx, hy⟩ := h3; exact ⟨x, hx, by simpa using hy⟩
      simp [h1, h2, this, h4]
    · have : (kk sa ++ kk sb).Nodup := List.nodup_append.2 ⟨h1, h2, fun x hx y hy e => h3 ⟨x, hx, e ▸ hy⟩⟩
      have h4 : ((kk sa).any fun x => decide (x ∈ kk sb)) = false := by
        rw [List.any_eq_false]; intro x hx hy; exact h3 ⟨x, hx, by simpa using hy⟩
      simp [h1, h2, this, h4]
  · have : ¬ (kk sa ++ kk sb).Nodup := fun hn => h2 (List.nodup_append.1 hn).2.1
    simp [h2, this]
  · have : ¬ (kk sa ++ kk sb).Nodup := fun hn => h1 (List.nodup_append.1 hn).1
    simp [h1, this]
  · have : ¬ (kk sa ++ kk sb).Nodup := fun hn => h1 (List.nodup_append.1 hn).1
    simp [h1, this]
theorem shared_comm (sa sb : List ByteArray) : sharedB sb sa = sharedB sa sb := by
  unfold sharedB
  rw [Bool.eq_iff_iff, List.any_eq_true, List.any_eq_true]
  constructor
  · rintro ⟨x, hx, hy⟩; exact ⟨x, by simpa using hy, by simpa using hx⟩
  · rintro ⟨x, hx, hy⟩; exact ⟨x, by simpa using hy, by simpa using hx⟩
theorem join_law2 (sa sb : List ByteArray) : dupB (sb ++ sa) = (dupB sa || dupB sb || sharedB sa sb) := by
  rw [join_law, shared_comm]; cases dupB sa <;> cases dupB sb <;> rfl
theorem shared_hit {sa sb : List ByteArray} {p q : Nat} (hp : p < sa.length) (hq : q < sb.length) (h : (sa[p]'hp).data.toList = (sb[q]'hq).data.toList) : sharedB sa sb = true := by
  unfold sharedB
  rw [List.any_eq_true]
  exact ⟨(sa[p]'hp).data.toList, List.mem_map.2 ⟨_, List.getElem_mem hp, rfl⟩, by simp only [decide_eq_true_eq]; rw [h]; exact List.mem_map.2 ⟨_, List.getElem_mem hq, rfl⟩⟩
/-- no string of sa's first k stands in sb -/
def alone (sa sb : List ByteArray) (k : Nat) : Prop := ∀ p q (hp : p < sa.length) (hq : q < sb.length), p < k → (sa[p]'hp).data.toList ≠ (sb[q]'hq).data.toList
theorem shared_miss {sa sb : List ByteArray} (h : alone sa sb sa.length) : sharedB sa sb = false := by
  unfold sharedB
  rw [List.any_eq_false]
  intro x hx hy
  obtain ⟨s, hs, rfl⟩ := List.mem_map.1 hx
  obtain ⟨t, ht, e⟩ := List.mem_map.1 (of_decide_eq_true hy)
  obtain ⟨p, hp, rfl⟩ := List.getElem_of_mem hs
  obtain ⟨q, hq, rfl⟩ := List.getElem_of_mem ht
  exact h p q hp hq hp e.symm
/-- an append whose run is known, for the walk -/
theorem wpList_append_run {P : Program} (w : World) {ops : Array Oper} {rest : List Oper} {o : Oper} {a : Act} {Q : Exit → Act → World → Prop}
    (hg : o.guard = none) (s x : Operand) (t : TypeId) (hop : o.op = Op.call { callee := Callee.builtin Builtin.append, args := #[s, x], argTypes := #[t, t] })
    (v : Value) (W2 : World) (sv xv : Value) (hs : a.eval s = sv) (hx : a.eval x = xv) (hrun : ∀ ty, (Builtin.append_ #[t, t] ty #[sv, xv]).run P w = .ok v W2)
    (hK : wpList P ops Q rest (a.put o.dst v) W2) : wpList P ops Q (o :: rest) a w := by
  refine wpList_plain hg fun K' hK' => ?_
  have hr := hrun o.type
  unfold Oper.wp
  simp [execOp, hop, resolve, invoke, builtin, hs, hx, hr, Result.andThen]
  exact hK' _ _ hK
theorem rows_start (W : World) (N : Nat) : RowAt ((W.alloc (.cells (mk0 N) 9)).alloc (.cells (mk0 N) 9)) W.heap.size N [] ∧ RowAt ((W.alloc (.cells (mk0 N) 9)).alloc (.cells (mk0 N) 9)) (W.heap.size + 1) N [] ∧ Below W.heap.size W ((W.alloc (.cells (mk0 N) 9)).alloc (.cells (mk0 N) 9)) := by
  refine ⟨(row_made W N).kept (World.grownBy_alloc _ _ none) (by simp), ?_, ((Below.refl _ _).alloc (Nat.le_refl _) _).alloc (by simp) _⟩
  have := row_made (W.alloc (.cells (mk0 N) 9)) N
  rwa [show (W.alloc (.cells (mk0 N) 9)).heap.size = W.heap.size + 1 by simp] at this
set_option maxRecDepth 100000 in
set_option maxHeartbeats 20000000 in
theorem main4_any (F : Interp) (x y : Option Addr) (ca cb : Nat) (sa sb : List ByteArray) (w : World) (hF : F.answers w.tape) (hna : sa.length ≤ maxLen) (hnb : sb.length ≤ maxLen)
    (hx : SliceOf w x sa) (hy : SliceOf w y sb) (hsa : ∀ s ∈ sa, s.size ≤ maxLen) (hsb : ∀ s ∈ sb, s.size ≤ maxLen) :
    Calls Tryf.prog 4 #[.slice x sa.length ca, .slice y sb.length cb] w fun e w' => e = .returned (.bool true) ∧ Below w.heap.size w w' := by
  have HZ9 := Lib.hid (zz9_any x y ca cb sa sb w hna hnb hx hy hsa hsb)
  have HF := Lib.hid hF
  have HX := Lib.hid hx
  have HY := Lib.hid hy
  have HSA := Lib.hid hsa
  have HSB := Lib.hid hsb
  have hnx : ∀ W, (binOp .neq 22 (.slice x sa.length ca) (.slice none 0 0)).run Tryf.prog W = .ok (.bool (!x.isNone)) W := fun W => run_neq_slice_nil_any W 22 9 _ _ _ 0 0 Tryf.underlying22
  have hny : ∀ W, (binOp .neq 22 (.slice y sb.length cb) (.slice none 0 0)).run Tryf.prog W = .ok (.bool (!y.isNone)) W := fun W => run_neq_slice_nil_any W 22 9 _ _ _ 0 0 Tryf.underlying22
  obtain ⟨la, hla⟩ : ∃ la, la = sa.length := ⟨_, rfl⟩
  obtain ⟨lb, hlb⟩ : ∃ lb, lb = sb.length := ⟨_, rfl⟩
  rw [← hla] at HZ9 hna hnx ⊢
  rw [← hlb] at HZ9 hnb hny ⊢
  have HLA := Lib.hid hla
  have HLB := Lib.hid hlb
  clear hx hy hsa hsb hla hlb hF
  unfold maxLen at hna hnb
  by_cases h4 : la ≤ 4096
  · by_cases h5 : lb ≤ 4096
    · go_enter Tryf.func4, Tryf.ntmps4
      go_upto_if 34 with (go_at_call 9; refine HZ9.out.mono ?_; rintro e w' ⟨⟨r, rfl, hr⟩, hw⟩; replace hw := hw.symm; subst hw)
      · go_ret
        exact ⟨rfl, Below.refl _ _⟩
      have hsm : small sa ∧ small sb := hr (by simpa using ‹(!r) = false›)
      have HSM := Lib.hid hsm
      clear hr hsm HZ9
      go_cut [0] (fun s0 wc => ∃ x' c', s0 = .slice x' la c' ∧ Hid (Below w.heap.size w wc) ∧ Hid (SliceOf wc x' sa))
      case first =>
        cases x with
        | none =>
          go_wp2
          go_meet
          case rel => exact ⟨none, ca, rfl, Below.refl _ _, HX⟩
        | some a =>
          obtain ⟨W2, hcp, hB2, hS2⟩ := copied_gen a ca sa w HX.out
          rw [← HLA.out] at hcp
          have hmk := run_mk la (by omega)
          have HB2 := Lib.hid hB2
          have HS2 := Lib.hid hS2
          clear hB2 hS2
          go_wp2
          go_meet
          case rel => exact ⟨some ⟨w.heap.size, 0, none⟩, la, rfl, HB2, HS2⟩
      case rest =>
        rename World => W1
        obtain ⟨x1, c1, rfl, HB1, HX1⟩ := hcut
        have HY1 : Hid (SliceOf W1 y sb) := HY.out.below HB1.out
        have HF1 : Hid (F.answers W1.tape) := by unfold Hid; rw [HB1.out.tape]; exact HF.out
        clear hnx HX HY HF
        go_upto_if 43 with fail
        go_cut [1] (fun s1 wc2 => ∃ y' c', s1 = .slice y' lb c' ∧ Hid (Below W1.heap.size W1 wc2) ∧ Hid (SliceOf wc2 y' sb))
        case first =>
          cases y with
          | none =>
            go_wp2
            go_meet
            case rel => exact ⟨none, cb, rfl, Below.refl _ _, HY1⟩
          | some a =>
            obtain ⟨W2, hcp, hB2, hS2⟩ := copied_gen a cb sb W1 HY1.out
            rw [← HLB.out] at hcp
            have hmk := run_mk lb (by omega)
            have HB2 := Lib.hid hB2
            have HS2 := Lib.hid hS2
            clear hB2 hS2
            go_wp2
            go_meet
            case rel => exact ⟨some ⟨W1.heap.size, 0, none⟩, lb, rfl, HB2, HS2⟩
        case rest =>
          rename World => W2
          obtain ⟨y1, d1, rfl, HB2, HY2⟩ := hcut
          have HX2 : Hid (SliceOf W2 x1 sa) := HX1.out.below HB2.out
          have HF2 : Hid (F.answers W2.tape) := by unfold Hid; rw [HB2.out.tape]; exact HF1.out
          have HBW : Hid (Below w.heap.size w W2) := HB1.out.trans (HB2.out.mono HB1.out.size)
          clear hny HX1 HY1 HF1 HB1 HB2
          go_wp2
          go_loop [7, 8] (fun vn vi => ∃ (k : Nat) (z : Int), vn = .int .i64 z ∧ vi = .int .i64 k ∧ k ≤ la ∧ 0 ≤ z ∧ z ≤ 1048576) (fun _ vi => la - (intOf vi).toNat)
          case atStart => exact ⟨0, 0, rfl, rfl, by omega, by omega, by omega⟩
          case round =>
            obtain ⟨k, z, rfl, rfl, hk, hz0, hz1⟩ := hrel
            by_cases hlt : k < la
            · have hlt' : k < sa.length := by have := HLA.out; omega
              obtain ⟨b, off, hxe, hblt, hc⟩ := HX2.out (by omega)
              subst hxe
              have hcx := hc k hlt'
              have hsm := HSM.out.1.2 _ (List.getElem_mem hlt')
              generalize sa[k]'hlt' = s at hcx hsm
              clear hc
              by_cases h2 : z + (16 + s.size) ≤ 1048576
              · go_wp2
                go_round
                case rel => exact ⟨k + 1, z + (16 + s.size), rfl, by go_num, by omega, by omega, by omega⟩
                case measure => simp [intOf]; omega
              · go_wp2
                go_ret
                exact ⟨rfl, HBW.out⟩
            · go_wp2
              go_loop [7, 9] (fun vn vi => ∃ (k : Nat) (z : Int), vn = .int .i64 z ∧ vi = .int .i64 k ∧ k ≤ lb ∧ 0 ≤ z ∧ z ≤ 1048576) (fun _ vi => lb - (intOf vi).toNat)
              case atStart => exact ⟨0, z, rfl, rfl, by omega, by omega, by omega⟩
              case round =>
                obtain ⟨k2, z2, rfl, rfl, hk2, hz02, hz12⟩ := hrel
                by_cases hlt2 : k2 < lb
                · have hlt' : k2 < sb.length := by have := HLB.out; omega
                  obtain ⟨b, off, hye, hblt, hc⟩ := HY2.out (by omega)
                  subst hye
                  have hcx := hc k2 hlt'
                  have hsm := HSM.out.2.2 _ (List.getElem_mem hlt')
                  generalize sb[k2]'hlt' = s at hcx hsm
                  clear hc
                  by_cases h2 : z2 + (16 + s.size) ≤ 1048576
                  · go_wp2
                    go_round
                    case rel => exact ⟨k2 + 1, z2 + (16 + s.size), rfl, by go_num, by omega, by omega, by omega⟩
                    case measure => simp [intOf]; omega
                  · go_wp2
                    go_ret
                    exact ⟨rfl, HBW.out⟩
                · -- the two new rows
                  have hmk1 : (Instr.makeSlice 22 (.int .i64 0) (.int .i64 ((la : Int) + (lb : Int)))).run Tryf.prog W2 = .ok (.slice (some ⟨W2.heap.size, 0, none⟩) 0 (la + lb)) (W2.alloc (.cells (mk0 (la + lb)) 9)) := by
                    have := run_mk0 (la + lb) (by omega) W2
                    rwa [Int.natCast_add] at this
                  have hmk2 : (Instr.makeSlice 22 (.int .i64 0) (.int .i64 ((la : Int) + (lb : Int)))).run Tryf.prog (W2.alloc (.cells (mk0 (la + lb)) 9)) = .ok (.slice (some ⟨W2.heap.size + 1, 0, none⟩) 0 (la + lb)) ((W2.alloc (.cells (mk0 (la + lb)) 9)).alloc (.cells (mk0 (la + lb)) 9)) := by
                    have := run_mk0 (la + lb) (by omega) (W2.alloc (.cells (mk0 (la + lb)) 9))
                    rw [Int.natCast_add] at this
                    simpa using this
                  obtain ⟨B1, hB1⟩ : ∃ B1, B1 = W2.heap.size := ⟨_, rfl⟩
                  have hrows := rows_start W2 (la + lb)
                  obtain ⟨W3, hW3⟩ : ∃ W3, W3 = (W2.alloc (.cells (mk0 (la + lb)) 9)).alloc (.cells (mk0 (la + lb)) 9) := ⟨_, rfl⟩
                  rw [← hW3] at hmk2 hrows
                  have HR := Lib.hid hrows
                  clear hrows hW3
                  go_wp2
                  go_loopw [10, 12] (fun v10 vi wr => ∃ k : Nat, v10 = .slice (some ⟨W2.heap.size, 0, none⟩) k (la + lb) ∧ vi = .int .i64 k ∧ k ≤ la ∧ Hid (RowAt wr W2.heap.size (la + lb) (sa.take k)) ∧ Hid (RowAt wr (W2.heap.size + 1) (la + lb) []) ∧ Hid (Below W2.heap.size W2 wr)) (fun _ vi _ => la - (intOf vi).toNat)
                  case atStart => exact ⟨0, rfl, rfl, by omega, HR.out.1, HR.out.2.1, HR.out.2.2⟩
                  case round =>
                    obtain ⟨k3, rfl, rfl, hk3, HR1, HR2, HBr⟩ := hrel
                    clear hmk1 hmk2 HR
                    by_cases hlt3 : k3 < la
                    · have hlt' : k3 < sa.length := by have := HLA.out; omega
                      obtain ⟨b, off, hxe, hblt, hc⟩ := (HX2.out.below HBr.out) (by omega)
                      have hcx := hc k3 hlt'
                      obtain ⟨W4, happ, hR1', hg⟩ := appended wr W2.heap.size (la + lb) (sa.take k3) (sa[k3]'hlt') HR1.out (by rw [List.length_take]; have := HLA.out; omega)
                      rw [List.length_take, Nat.min_eq_left (by omega)] at happ
                      have HR1' : Hid (RowAt W4 W2.heap.size (la + lb) (sa.take (k3 + 1))) := by unfold Hid; rw [List.take_succ_eq_append_getElem hlt']; exact hR1'
                      have HR2' : Hid (RowAt W4 (W2.heap.size + 1) (la + lb) []) := HR2.out.kept hg (by simp)
                      have HBr' : Hid (Below W2.heap.size W2 W4) := HBr.out.grown hg HBr.out.size (fun j hj => by cases hj; exact Nat.le_refl _)
                      generalize sa[k3]'hlt' = s at hcx happ
                      clear hc hR1' hg HR1 HR2
                      subst hxe
                      have HAPP := Lib.hid happ
                      clear happ
                      go_wp2_with (at_builtin; refine wpList_append_run _ rfl _ _ 22 rfl _ W4 _ _ rfl rfl HAPP.out ?_)
                      go_wp2
                      go_roundw
                      case rel => exact ⟨k3 + 1, rfl, by go_num, by omega, HR1', HR2', HBr'⟩
                      case measure => simp [intOf]; omega
                    · obtain rfl : la = k3 := by omega
                      have HR1a : Hid (RowAt wr W2.heap.size (la + lb) (sa ++ sb.take 0)) := by
                        have := HR1.out; rw [List.take_of_length_le (by have := HLA.out; omega)] at this
                        unfold Hid; rw [List.take_zero, List.append_nil]; exact this
                      clear HR1
                      go_wp2
                      go_loopw [10, 11, 13] (fun v10 v11 vi wr => ∃ k : Nat, v10 = .slice (some ⟨W2.heap.size, 0, none⟩) (la + k) (la + lb) ∧ v11 = .slice (some ⟨W2.heap.size + 1, 0, none⟩) k (la + lb) ∧ vi = .int .i64 k ∧ k ≤ lb ∧ Hid (RowAt wr W2.heap.size (la + lb) (sa ++ sb.take k)) ∧ Hid (RowAt wr (W2.heap.size + 1) (la + lb) (sb.take k)) ∧ Hid (Below W2.heap.size W2 wr)) (fun _ _ vi _ => lb - (intOf vi).toNat)
                      case atStart => exact ⟨0, rfl, rfl, rfl, by omega, HR1a, HR2, HBr⟩
                      case round =>
                        clear HR1a HR2 HBr
                        rename World => wr4
                        obtain ⟨k4, rfl, rfl, rfl, hk4, HR1, HR2, HBr⟩ := hrel
                        by_cases hlt4 : k4 < lb
                        · have hlt' : k4 < sb.length := by have := HLB.out; omega
                          have hl1 : (sa ++ sb.take k4).length = la + k4 := by rw [List.length_append, List.length_take, ← HLA.out, Nat.min_eq_left (by omega)]
                          have hl2 : (sb.take k4).length = k4 := by rw [List.length_take, Nat.min_eq_left (by omega)]
                          obtain ⟨W4, happ1, hR1', hg1⟩ := appended wr4 W2.heap.size (la + lb) (sa ++ sb.take k4) (sb[k4]'hlt') HR1.out (by omega)
                          have HBr4 : Hid (Below W2.heap.size W2 W4) := HBr.out.grown hg1 HBr.out.size (fun j hj => by cases hj; exact Nat.le_refl _)
                          obtain ⟨W5, happ2, hR2', hg2⟩ := appended W4 (W2.heap.size + 1) (la + lb) (sb.take k4) (sb[k4]'hlt') (HR2.out.kept hg1 (by simp)) (by omega)
                          rw [hl1] at happ1
                          rw [hl2] at happ2
                          obtain ⟨b, off, hye, hblt, hc⟩ := HY2.out (by omega)
                          have hcx : wr4.cell? ⟨b, off + k4, none⟩ = some (.string (sb[k4]'hlt')) := by rw [HBr.out.cell (p := ⟨b, off + k4, none⟩) hblt]; exact hc k4 hlt'
                          have hcx2 : W4.cell? ⟨b, off + k4, none⟩ = some (.string (sb[k4]'hlt')) := by rw [HBr4.out.cell (p := ⟨b, off + k4, none⟩) hblt]; exact hc k4 hlt'
                          have HR1' : Hid (RowAt W5 W2.heap.size (la + lb) (sa ++ sb.take (k4 + 1))) := by
                            unfold Hid; rw [List.take_succ_eq_append_getElem hlt', ← List.append_assoc]; exact hR1'.kept hg2 (by simp)
                          have HR2' : Hid (RowAt W5 (W2.heap.size + 1) (la + lb) (sb.take (k4 + 1))) := by unfold Hid; rw [List.take_succ_eq_append_getElem hlt']; exact hR2'
                          have HBr' : Hid (Below W2.heap.size W2 W5) := HBr4.out.grown hg2 HBr4.out.size (fun j hj => by cases hj; exact Nat.le_succ _)
                          generalize sb[k4]'hlt' = s at hcx hcx2 happ1 happ2
                          have HAPP1 := Lib.hid happ1
                          have HAPP2 := Lib.hid happ2
                          clear hc hR1' hR2' hg1 hg2 HR1 HR2 hl1 hl2 happ1 happ2 HBr4
                          subst hye
                          go_wp2_with (at_builtin; first | refine wpList_append_run _ rfl _ _ 22 rfl _ W4 _ _ rfl rfl HAPP1.out ?_ | refine wpList_append_run _ rfl _ _ 22 rfl _ W5 _ _ rfl rfl HAPP2.out ?_)
                          go_wp2
                          go_roundw
                          case rel => exact ⟨k4 + 1, rfl, rfl, by go_num, by omega, HR1', HR2', HBr'⟩
                          case measure => simp [intOf]; omega
                        · obtain rfl : lb = k4 := by omega
                          have HR1b : Hid (RowAt wr4 W2.heap.size (la + lb) (sa ++ sb)) := by
                            have := HR1.out; rwa [List.take_of_length_le (by have := HLB.out; omega)] at this
                          have HR2b : Hid (RowAt wr4 (W2.heap.size + 1) (la + lb) (sb ++ sa.take 0)) := by
                            have := HR2.out; rw [List.take_of_length_le (by have := HLB.out; omega)] at this
                            unfold Hid; rw [List.take_zero, List.append_nil]; exact this
                          clear HR1 HR2
                          go_wp2
                          go_loopw [11, 14] (fun v11 vi wr => ∃ k : Nat, v11 = .slice (some ⟨W2.heap.size + 1, 0, none⟩) (lb + k) (la + lb) ∧ vi = .int .i64 k ∧ k ≤ la ∧ Hid (RowAt wr W2.heap.size (la + lb) (sa ++ sb)) ∧ Hid (RowAt wr (W2.heap.size + 1) (la + lb) (sb ++ sa.take k)) ∧ Hid (Below W2.heap.size W2 wr)) (fun _ vi _ => la - (intOf vi).toNat)
                          case atStart => exact ⟨0, rfl, rfl, by omega, HR1b, HR2b, HBr⟩
                          case round =>
                            clear HR1b HR2b HBr
                            rename World => wr5
                            obtain ⟨k5, rfl, rfl, hk5, HR1, HR2, HBr⟩ := hrel
                            by_cases hlt5 : k5 < la
                            · have hlt' : k5 < sa.length := by have := HLA.out; omega
                              have hl2 : (sb ++ sa.take k5).length = lb + k5 := by rw [List.length_append, List.length_take, ← HLB.out, Nat.min_eq_left (by omega)]
                              obtain ⟨W5, happ2, hR2', hg2⟩ := appended wr5 (W2.heap.size + 1) (la + lb) (sb ++ sa.take k5) (sa[k5]'hlt') HR2.out (by omega)
                              rw [hl2] at happ2
                              obtain ⟨b, off, hxe, hblt, hc⟩ := HX2.out (by omega)
                              have hcx : wr5.cell? ⟨b, off + k5, none⟩ = some (.string (sa[k5]'hlt')) := by rw [HBr.out.cell (p := ⟨b, off + k5, none⟩) hblt]; exact hc k5 hlt'
                              have HR1' : Hid (RowAt W5 W2.heap.size (la + lb) (sa ++ sb)) := HR1.out.kept hg2 (by simp)
                              have HR2' : Hid (RowAt W5 (W2.heap.size + 1) (la + lb) (sb ++ sa.take (k5 + 1))) := by unfold Hid; rw [List.take_succ_eq_append_getElem hlt', ← List.append_assoc]; exact hR2'
                              have HBr' : Hid (Below W2.heap.size W2 W5) := HBr.out.grown hg2 HBr.out.size (fun j hj => by cases hj; exact Nat.le_succ _)
                              generalize sa[k5]'hlt' = s at hcx happ2
                              have HAPP2 := Lib.hid happ2
                              clear hc hR2' hg2 HR1 HR2 hl2 happ2
                              subst hxe
                              go_wp2_with (at_builtin; refine wpList_append_run _ rfl _ _ 22 rfl _ W5 _ _ rfl rfl HAPP2.out ?_)
                              go_wp2
                              go_roundw
                              case rel => exact ⟨k5 + 1, rfl, by go_num, by omega, HR1', HR2', HBr'⟩
                              case measure => simp [intOf]; omega
                            · obtain rfl : la = k5 := by omega
                              have HR2b : Hid (RowAt wr5 (W2.heap.size + 1) (la + lb) (sb ++ sa)) := by
                                have := HR2.out; rwa [List.take_of_length_le (by have := HLA.out; omega)] at this
                              clear HR2
                              have HXr : Hid (SliceOf wr5 x1 sa) := HX2.out.below HBr.out
                              have HYr : Hid (SliceOf wr5 y1 sb) := HY2.out.below HBr.out
                              have HFr : Hid (F.answers wr5.tape) := by unfold Hid; rw [HBr.out.tape]; exact HF2.out
                              have HS1 : Hid (SliceOf wr5 (some ⟨W2.heap.size, 0, none⟩) (sa ++ sb)) := HR1.out.slice
                              have HS2 : Hid (SliceOf wr5 (some ⟨W2.heap.size + 1, 0, none⟩) (sb ++ sa)) := HR2b.out.slice
                              have HBr5 : Hid (Below w.heap.size w wr5) := HBW.out.trans (HBr.out.mono HBW.out.size)
                              clear HX2 HY2 HF2 HR1 HR2b HBr HBW
                              have HCA := Lib.hid (check_gen F x1 la c1 sa HLA.out wr5 HFr.out (by have := HLA.out; omega) HXr.out HSA.out)
                              go_wp2_with fail
                              refine HCA.out.mono ?_
                              rintro e wa ⟨ra, rfl, hcsa, hba⟩
                              have hneqa := cs_neq hcsa
                              have hgrda := cs_guard hcsa
                              have HXa : Hid (SliceOf wa x1 sa) := HXr.out.below hba
                              have HYa : Hid (SliceOf wa y1 sb) := HYr.out.below hba
                              have HS1a : Hid (SliceOf wa (some ⟨W2.heap.size, 0, none⟩) (sa ++ sb)) := HS1.out.below hba
                              have HS2a : Hid (SliceOf wa (some ⟨W2.heap.size + 1, 0, none⟩) (sb ++ sa)) := HS2.out.below hba
                              have HFa : Hid (F.answers wa.tape) := by unfold Hid; rw [hba.tape]; exact HFr.out
                              have HBa : Hid (Below w.heap.size w wa) := HBr5.out.trans (hba.mono HBr5.out.size)
                              obtain ⟨DA, hDA⟩ : ∃ DA, DA = dupB sa := ⟨_, rfl⟩
                              rw [← hDA] at hneqa
                              have HDA := Lib.hid hDA
                              clear hDA hcsa hba HCA HXr HYr HS1 HS2 HFr HBr5
                              have HCB := Lib.hid (check_gen F y1 lb d1 sb HLB.out wa HFa.out (by have := HLB.out; omega) HYa.out HSB.out)
                              go_wp2_with fail
                              refine HCB.out.mono ?_
                              rintro e wb ⟨rb, rfl, hcsb, hbb⟩
                              have hneqb := cs_neq hcsb
                              have hgrdb := cs_guard hcsb
                              have HXb : Hid (∀ m, SliceOf (wb.drewN m) x1 sa) := fun m => (HXa.out.below hbb).drewN m
                              have HYb : Hid (∀ m, SliceOf (wb.drewN m) y1 sb) := fun m => (HYa.out.below hbb).drewN m
                              have HS1b : Hid (∀ m, SliceOf (wb.drewN m) (some ⟨W2.heap.size, 0, none⟩) (sa ++ sb)) := fun m => (HS1a.out.below hbb).drewN m
                              have HS2b : Hid (SliceOf wb (some ⟨W2.heap.size + 1, 0, none⟩) (sb ++ sa)) := HS2a.out.below hbb
                              have HFb : Hid (F.answers wb.tape) := by unfold Hid; rw [hbb.tape]; exact HFa.out
                              have HBb : Hid (∀ m, Below w.heap.size w (wb.drewN m)) := fun m => below_drewN (HBa.out.trans (hbb.mono HBa.out.size)) m
                              obtain ⟨DB, hDB⟩ : ∃ DB, DB = dupB sb := ⟨_, rfl⟩
                              rw [← hDB] at hneqb
                              have HDB := Lib.hid hDB
                              obtain ⟨SH, hSH⟩ : ∃ SH, SH = sharedB sa sb := ⟨_, rfl⟩
                              have HSH := Lib.hid hSH
                              have HJ1 : Hid (dupB (sa ++ sb) = (DA || DB || SH)) := by unfold Hid; rw [HDA.out, hDB, hSH]; exact join_law sa sb
                              have HJ2 : Hid (dupB (sb ++ sa) = (DA || DB || SH)) := by unfold Hid; rw [HDA.out, hDB, hSH]; exact join_law2 sa sb
                              have HSAB : Hid (∀ s ∈ sa ++ sb, s.size ≤ maxLen) := fun s hs => (List.mem_append.1 hs).elim (HSA.out s) (HSB.out s)
                              have HSBA : Hid (∀ s ∈ sb ++ sa, s.size ≤ maxLen) := fun s hs => (List.mem_append.1 hs).elim (HSB.out s) (HSA.out s)
                              clear hDB hSH hcsb hbb HCB HXa HYa HS1a HS2a HFa HBa HDA HDB
                              go_wp2
                              go_loopw [17, 18] (fun vr vi wr => ∃ (k : Nat) (b : Bool), vr = .bool b ∧ vi = .int .i64 k ∧ k ≤ la ∧ Hid (∃ m, wr = wb.drewN m) ∧ Hid (b = true → SH = true) ∧ Hid (b = false → alone sa sb k)) (fun _ vi _ => la - (intOf vi).toNat)
                              case atStart => exact ⟨0, false, rfl, rfl, by omega, ⟨0, rfl⟩, fun h => absurd h (by decide), fun _ p q _ _ h => absurd h (Nat.not_lt_zero p)⟩
                              case round =>
                                obtain ⟨k6, b6, rfl, rfl, hk6, hwr, hbt, hbf⟩ := hrel
                                obtain ⟨m1, hm1⟩ := hwr.out
                                subst hm1
                                clear hwr
                                by_cases hgo : b6 = false ∧ k6 < la
                                · obtain ⟨hb0, hlt6⟩ := hgo
                                  subst hb0
                                  have HBF := Lib.hid (hbf.out rfl)
                                  clear hbt hbf
                                  have hlt6' : k6 < sa.length := by have := HLA.out; omega
                                  obtain ⟨b1, o1, hxe, _, hc1⟩ := HXb.out 0 (by omega)
                                  have HC1 : Hid (∀ m, (wb.drewN m).cell? ⟨b1, o1 + k6, none⟩ = some (.string (sa[k6]'hlt6'))) := fun m => by
                                    rw [World.cell?_drewN]; have := hc1 k6 hlt6'; rwa [World.cell?_drewN] at this
                                  clear hc1
                                  subst hxe
                                  go_wp2
                                  go_loopw [17, 19] (fun vr vj wr => ∃ (m : Nat), vr = .bool false ∧ vj = .int .i64 m ∧ m ≤ lb ∧ Hid (∃ n, wr = wb.drewN n) ∧ Hid (∀ q (hq : q < sb.length), q < m → (sa[k6]'hlt6').data.toList ≠ (sb[q]'hq).data.toList)) (fun _ vj _ => lb - (intOf vj).toNat)
                                  case atStart => exact ⟨0, rfl, rfl, by omega, ⟨m1, rfl⟩, fun q _ h => absurd h (Nat.not_lt_zero q)⟩
                                  case round =>
                                    obtain ⟨m, rfl, rfl, hml, hwr, hne⟩ := hrel
                                    obtain ⟨m2, hm2⟩ := hwr.out
                                    subst hm2
                                    clear hwr
                                    by_cases hlt7 : m < lb
                                    · have hlt7' : m < sb.length := by have := HLB.out; omega
                                      obtain ⟨b2, o2, hye, _, hc2⟩ := HYb.out 0 (by omega)
                                      have g2 : wb.cell? ⟨b2, o2 + m, none⟩ = some (.string (sb[m]'hlt7')) := by have := hc2 m hlt7'; rwa [World.cell?_drewN] at this
                                      have g1 : wb.cell? ⟨b1, o1 + k6, none⟩ = some (.string (sa[k6]'hlt6')) := by have := HC1.out 0; rwa [World.cell?_drewN] at this
                                      have i1 : (k6 : Int) < (la : Int) := by omega
                                      have i2 : (m : Int) < (lb : Int) := by omega
                                      clear hc2
                                      subst hye
                                      go_wp2
                                      go_quiet (fail)
                                      go_wp2
                                      · have he : ((sa[k6]'hlt6').toList == (sb[m]'hlt7').toList) = true := by assumption
                                        have HT : Hid (SH = true) := by unfold Hid; rw [HSH.out]; exact shared_hit hlt6' hlt7' (bytes_eq he)
                                        exact ⟨⟨k6 + 1, true, rfl, by go_num, by omega, ⟨_, rfl⟩, fun _ => HT.out, fun h => absurd h (by decide)⟩, by simp [intOf]; omega⟩
                                      · have he : ((sa[k6]'hlt6').toList == (sb[m]'hlt7').toList) = false := by assumption
                                        have HN : Hid (∀ q (hq : q < sb.length), q < m + 1 → (sa[k6]'hlt6').data.toList ≠ (sb[q]'hq).data.toList) := fun q hq h2 => by
                                          by_cases e : q = m
                                          · subst e; exact bytes_ne he
                                          · exact hne.out q hq (by omega)
                                        exact ⟨⟨m + 1, rfl, by go_num, by omega, ⟨_, rfl⟩, HN⟩, by simp [intOf]; omega⟩
                                    · have HN : Hid (alone sa sb (k6 + 1)) := fun p q hp hq h1 => by
                                        by_cases e : p = k6
                                        · subst e; exact hne.out q hq (by have := HLB.out; omega)
                                        · exact HBF.out p q hp hq (by omega)
                                      clear hne
                                      go_wp2
                                      exact ⟨⟨k6 + 1, false, rfl, by go_num, by omega, ⟨_, rfl⟩, fun h => absurd h (by decide), fun _ => HN.out⟩, by simp [intOf]; omega⟩
                                · have hbs : SH = b6 := by
                                    cases b6 with
                                    | true => exact hbt.out rfl
                                    | false =>
                                      rw [HSH.out]
                                      have hk : ¬ k6 < la := fun h => hgo ⟨rfl, h⟩
                                      exact shared_miss (by have := hbf.out rfl; rwa [show k6 = sa.length by have := HLA.out; omega] at this)
                                  have hkk : b6 = false → ¬ k6 < la := fun h hk => hgo ⟨h, hk⟩
                                  clear hbt hbf hgo HSH
                                  subst hbs
                                  by_cases hlt6 : k6 < la
                                  · obtain rfl : SH = true := by
                                      cases SH with
                                      | true => rfl
                                      | false => exact absurd hlt6 (hkk rfl)
                                    clear hkk
                                    cases DA <;> cases DB
                                    all_goals
                                      have HC5 := Lib.hid (check_gen F (some ⟨W2.heap.size, 0, none⟩) (la + lb) (la + lb) (sa ++ sb) (by rw [List.length_append, ← HLA.out, ← HLB.out]) (wb.drewN m1) (by exact HFb.out) (by rw [List.length_append, ← HLA.out, ← HLB.out]; omega) (HS1b.out m1) HSAB.out)
                                      go_wp2_with fail
                                      refine HC5.out.mono ?_
                                      rintro e w5 ⟨r5, rfl, hcs5, hb5⟩
                                      have hneq5 := cs_neq hcs5
                                      rw [HJ1.out] at hneq5
                                      have hgrd5 := cs_guard hcs5
                                      have HF5 : Hid (F.answers w5.tape) := by unfold Hid; rw [hb5.tape]; exact HFb.out
                                      have HS5 : Hid (SliceOf w5 (some ⟨W2.heap.size + 1, 0, none⟩) (sb ++ sa)) := (HS2b.out.drewN m1).below hb5
                                      have HB5 : Hid (Below w.heap.size w w5) := (HBb.out m1).trans (hb5.mono (HBb.out m1).size)
                                      have HC6 := Lib.hid (check_gen F (some ⟨W2.heap.size + 1, 0, none⟩) (lb + la) (la + lb) (sb ++ sa) (by rw [List.length_append, ← HLA.out, ← HLB.out]) w5 HF5.out (by rw [List.length_append, ← HLA.out, ← HLB.out]; omega) HS5.out HSBA.out)
                                      clear hcs5 hb5 HC5
                                      go_wp2_with fail
                                      refine HC6.out.mono ?_
                                      rintro e w6 ⟨r6, rfl, hcs6, hb6⟩
                                      have hneq6 := cs_neq hcs6
                                      rw [HJ2.out] at hneq6
                                      have hgrd6 := cs_guard hcs6
                                      have HB6 : Hid (Below w.heap.size w w6) := HB5.out.trans (hb6.mono HB5.out.size)
                                      clear hcs6 hb6 HC6
                                      go_wp2
                                      go_ret
                                      exact ⟨rfl, HB6.out⟩
                                  · clear hkk
                                    cases SH <;> cases DA <;> cases DB
                                    all_goals
                                      have HC5 := Lib.hid (check_gen F (some ⟨W2.heap.size, 0, none⟩) (la + lb) (la + lb) (sa ++ sb) (by rw [List.length_append, ← HLA.out, ← HLB.out]) (wb.drewN m1) (by exact HFb.out) (by rw [List.length_append, ← HLA.out, ← HLB.out]; omega) (HS1b.out m1) HSAB.out)
                                      go_wp2_with fail
                                      refine HC5.out.mono ?_
                                      rintro e w5 ⟨r5, rfl, hcs5, hb5⟩
                                      have hneq5 := cs_neq hcs5
                                      rw [HJ1.out] at hneq5
                                      have hgrd5 := cs_guard hcs5
                                      have HF5 : Hid (F.answers w5.tape) := by unfold Hid; rw [hb5.tape]; exact HFb.out
                                      have HS5 : Hid (SliceOf w5 (some ⟨W2.heap.size + 1, 0, none⟩) (sb ++ sa)) := (HS2b.out.drewN m1).below hb5
                                      have HB5 : Hid (Below w.heap.size w w5) := (HBb.out m1).trans (hb5.mono (HBb.out m1).size)
                                      have HC6 := Lib.hid (check_gen F (some ⟨W2.heap.size + 1, 0, none⟩) (lb + la) (la + lb) (sb ++ sa) (by rw [List.length_append, ← HLA.out, ← HLB.out]) w5 HF5.out (by rw [List.length_append, ← HLA.out, ← HLB.out]; omega) HS5.out HSBA.out)
                                      clear hcs5 hb5 HC5
                                      go_wp2_with fail
                                      refine HC6.out.mono ?_
                                      rintro e w6 ⟨r6, rfl, hcs6, hb6⟩
                                      have hneq6 := cs_neq hcs6
                                      rw [HJ2.out] at hneq6
                                      have hgrd6 := cs_guard hcs6
                                      have HB6 : Hid (Below w.heap.size w w6) := HB5.out.trans (hb6.mono HB5.out.size)
                                      clear hcs6 hb6 HC6
                                      go_wp2
                                      go_ret
                                      exact ⟨rfl, HB6.out⟩
    · go_enter Tryf.func4, Tryf.ntmps4
      go_wp2_with (go_at_call 9; refine HZ9.out.mono ?_; rintro e w' ⟨⟨r, rfl, hr⟩, hw⟩; replace hw := hw.symm; subst hw)
      all_goals
        go_ret
        exact ⟨rfl, Below.refl _ _⟩
  · go_enter Tryf.func4, Tryf.ntmps4
    go_wp2_with (go_at_call 9; refine HZ9.out.mono ?_; rintro e w' ⟨⟨r, rfl, hr⟩, hw⟩; replace hw := hw.symm; subst hw)
    all_goals
      go_ret
      exact ⟨rfl, Below.refl _ _⟩
end Go.Proofs.Qxb6613197aFmt
