/-
  A PROOF OF 'Rows.FnIsUvUnderOneByteChangedAddedOrDroppedSaid' ('example.com/keyreel/keyreel/zzlaws_root_b1.FnIsUvUnderOneByteChangedAddedOrDropped'), WRITTEN BY PROGRAM (proof-skeleton.mjs) off the guide's own print for that function. Not trusted: the kernel checks it.
  The hole (the walk) is filled by contracts of Qxb6613156aWalks, Qxb6613156aMain and the plain law of Qxb6613156aPlain. ALL ELSE IS THE GUIDE's TEMPLATE at this function's number and types.
-/
import Derived.Test.Qxb6613156aRows
import Derived.Test.Qxb6613156aMain
import Derived.Lib.IndexBytes
import Derived.WalkKit
import Derived.ProofKit
import Derived.OpenShut
import Derived.ShutString
namespace Go.Proofs.Qxb6613156a.fnIsUvUnderOneByteChangedAddedOrDropped
open Go.ChangeShapes Go.WideShapes Go.ChangeAt Go.RowKit
open Go.ChangeMaps (open_string shut_string)
set_option linter.unusedVariables false      -- a walk need not use every 'w<i>' (that an integer argument fits its kind)

theorem own : ownKnob Try.prog.godebug = none := by kernel_rfl

open Plain
theorem ext_take (s : ByteArray) (k : Nat) : (s.extract 0 k).data.toList = s.data.toList.take k := by
  rw [Lib.extract_data, List.drop_zero, Nat.sub_zero]
theorem law_put (s : ByteArray) (k j : Nat) (c : UInt8) (hk : k ≤ s.size) :
    uvB (s.extract 0 k ++ ⟨#[c]⟩ ++ s.extract j s.size) = (uvB (s.extract 0 k ++ ⟨#[48]⟩ ++ s.extract j s.size) && lhex c.toNat) := by
  have e : ∀ d : UInt8, (s.extract 0 k ++ ⟨#[d]⟩ ++ s.extract j s.size).data.toList = s.data.toList.take k ++ [d] ++ s.data.toList.drop j := fun d => by
    rw [ByteArray.data_append, ByteArray.data_append, Array.toList_append, Array.toList_append, ext_take, Lib.extract_to_end]
  unfold uvB
  rw [e, e]
  exact put_law _ _ _
theorem law_drop (s : ByteArray) (k : Nat) (hk : k < s.size) (h : uvB s = true) : uvB (s.extract 0 k ++ s.extract (k + 1) s.size) = false := by
  unfold uvB at h ⊢
  rw [ByteArray.data_append, Array.toList_append, ext_take, Lib.extract_to_end]
  exact drop_law _ k (by rw [← Lib.size_eq]; exact hk) h
theorem out0 (s : ByteArray) (k c : Int) (hs : s.size ≤ maxLen) (h16 : s.size ≤ 65536) (hk : k < 0 ∨ (s.size : Int) < k) (w : World) :
    Calls Try.prog 3 #[.string s, .int .i64 k, .int .u8 c] w fun e w' => e = .returned (.bool true) ∧ Grown w w' := by
  have HS : Hid (s.size ≤ maxLen) := hs
  unfold maxLen at hs
  have h20 : decide (s.size ≤ 1048576) = true := by simp; omega
  rcases hk with hk | hk
  all_goals
    go_enter Try.func3, Try.ntmps3
    go_wp2_with (go_at_call 4; refine (zzBytes_any _ HS.out _ _ _).mono ?_; rintro e w' ⟨rfl, rfl⟩)
    go_ret
    exact ⟨rfl, Grown.refl _⟩

/-! ### STEP 1: THE WALK: the Go text returns true. 'Grown w w'': the world has at most new blocks (Derived/RowKit3.lean). Part the cases AHEAD of 'go_enter' where a test parts the walk; take each callee by a contract of your own. -/
theorem walk (a0 : ByteArray) (a1 : Int) (a2 : Int) (w0 : a0.size ≤ maxLen) (w1 : (Lit.int .i64 a1).wf = true) (w2 : (Lit.int .u8 a2).wf = true) (w : World) :
    Calls Try.prog 3 #[.string a0, .int .i64 a1, .int .u8 a2] w fun e w' => e = .returned (.bool true) ∧ Grown w w' := by
  obtain ⟨l0, l1⟩ := bounds_u8 w2
  by_cases hbig : 65536 < a0.size
  · have HS : Hid (a0.size ≤ maxLen) := w0
    unfold maxLen at w0
    by_cases hb2 : a0.size ≤ 1048576
    · have h20 : decide (a0.size ≤ 1048576) = true := by simpa using hb2
      go_enter Try.func3, Try.ntmps3
      go_wp2_with (go_at_call 4; refine (zzBytes_any _ HS.out _ _ _).mono ?_; rintro e w' ⟨rfl, rfl⟩)
      go_ret
      exact ⟨rfl, Grown.refl _⟩
    · have h20 : decide (a0.size ≤ 1048576) = false := by simpa using hb2
      go_enter Try.func3, Try.ntmps3
      go_wp2_with (go_at_call 4; refine (zzBytes_any _ HS.out _ _ _).mono ?_; rintro e w' ⟨rfl, rfl⟩)
      go_ret
      exact ⟨rfl, Grown.refl _⟩
  · have h16 : a0.size ≤ 65536 := by omega
    by_cases hk0 : a1 < 0
    · exact out0 a0 a1 a2 w0 h16 (Or.inl hk0) w
    · by_cases hk1 : (a0.size : Int) < a1
      · exact out0 a0 a1 a2 w0 h16 (Or.inr hk1) w
      · obtain ⟨k, rfl⟩ : ∃ k : Nat, a1 = k := ⟨a1.toNat, by omega⟩
        obtain ⟨c, rfl⟩ : ∃ c : UInt8, a2 = (c.toNat : Int) := ⟨UInt8.ofNat a2.toNat, by simp [UInt8.toNat_ofNat']; omega⟩
        have hks : k ≤ a0.size := by omega
        by_cases he : k = a0.size
        · exact main_end a0 w0 k c h16 he w _ rfl (law_put a0 k k c hks)
        · exact main_mid a0 w0 k c h16 (by omega) w _ rfl (law_put a0 k k c hks) _ rfl (law_put a0 k (k + 1) c hks) _ rfl (law_drop a0 k (by omega))

/-! ### THE ROW's STEP: WRITTEN OUT: LEAVE IT -/
set_option maxRecDepth 100000 in
theorem lifted (os : Os) (started : os.Started) (H : Type) (enc : TypeId × Value → H) :
    ReturnsInHanded {} Try.checked os 3 .any (Rows.fnIsUvUnderOneByteChangedAddedOrDroppedSpec.pre6 enc Try.prog Try.f3 Rows.fnIsUvUnderOneByteChangedAddedOrDroppedRow.domain false) (Rows.fnIsUvUnderOneByteChangedAddedOrDroppedSpec.post enc Try.prog Try.f3 false true false false) := by
  refine returnsInHanded_of_change (C := Try.checked) own started (by kernel_rfl) Try.func3
    (ChangeSpec.witness6 (enc := enc) (C := Try.checked) false ⟨#[], #[.string ByteArray.empty, .int .i64 0, .int .u8 0], []⟩ 8 (by kernel_rfl) (by kernel_rfl) (by kernel_rfl) (by kernel_rfl)) ?_
  intro W base args ds gs before hval0 hW hcnd _
  have hval : ∀ (j : Nat) t v, Try.f3.params[j]? = some t → args[j]? = some v → Value.okWide Try.prog W .any base t v := hval0
  have hW' := hW
  obtain ⟨p, q, hA0, hV, rfl, hfz, hnd⟩ := hW
  have hA : DataW.TrodAll enc Try.prog W 0 (fun _ => true) true Try.f3.params.toList args.toList ds p := hA0
  rw [Try.params3] at hA hval
  obtain ⟨v0, vs0, d0, ds0, p0, q0, hargs, rfl, rfl, h0, r0⟩ := trodAll_cons hA
  obtain ⟨v1, vs1, d1, ds1, p1, q1, rfl, rfl, rfl, h1, r1⟩ := trodAll_cons r0
  obtain ⟨v2, vs2, d2, ds2, p2, q2, rfl, rfl, rfl, h2, r2⟩ := trodAll_cons r1
  obtain ⟨rfl, rfl, rfl⟩ := trodAll_nil r2
  obtain rfl : args = #[v0, v1, v2] := by cases args; simp_all
  obtain ⟨rfl, rfl⟩ := trodVars_none hV
  obtain ⟨a0, rfl, rfl, rfl, w0⟩ := open_string Try.underlying9 (hval 0 9 v0 rfl rfl) h0
  obtain ⟨a1, rfl, rfl, rfl, w1⟩ := open_int Try.underlying3 (hval 1 3 v1 rfl rfl) h1
  obtain ⟨a2, rfl, rfl, rfl, w2⟩ := open_int Try.underlying5 (hval 2 5 v2 rfl rfl) h2
  clear hA0 hval0
  simp only [List.append_nil] at hW'
  refine (walk a0 a1 a2 w0 w1 w2 W).mono fun e W' ⟨he, hg⟩ => ?_
  subst he
  exact ⟨_, rfl, post_of_same (pa := []) (pv := []) hW' (fun _ _ _ => (trodAll_cons_mk (shut_bool Try.underlying4 _) trodAll_mk0)) (fun sp _ => (trodAll_cons_mk (shut_string Try.underlying9 w0) (trodAll_cons_mk (shut_int Try.underlying3 w1) (trodAll_cons_mk (shut_int Try.underlying5 w2) trodAll_mk0)))) (fun _ _ => rfl) rfl
    (hg.frame _) hg.2.1 (ok_one (by kernel_rfl) rfl (okWide_bool_mk Try.underlying4 _))⟩

theorem over : Rows.fnIsUvUnderOneByteChangedAddedOrDroppedRow.holds Try.pinned (OpenSpec.ofChange Rows.fnIsUvUnderOneByteChangedAddedOrDroppedSpec) :=
  OpenClaim.holds_of_wide 3 Try.f3 rfl rfl rfl rfl rfl rfl rfl ⟨rfl, rfl, rfl, rfl, rfl⟩ rfl rfl rfl rfl rfl (by kernel_rfl) Try.func3 (by kernel_rfl)
    (of_decide_eq_true (by kernel_rfl)) (by unfold Func.isWrapper; first | (rw [if_pos (by decide +kernel)]; kernel_rfl) | (rw [if_neg (by decide +kernel)]; exact ⟨rfl, rfl⟩))
    (fun os started H enc _ => lifted os started H enc)

/-- ████ THE STATEMENT ████ -/
theorem proved : Rows.FnIsUvUnderOneByteChangedAddedOrDroppedSaid :=
  over
#print axioms proved
end Go.Proofs.Qxb6613156a.fnIsUvUnderOneByteChangedAddedOrDropped
