/-
  Seat b6613197aF: THE TOLD CARD of 'FnOutOfReachThreshold'.
-/
import Derived.Test.Qxb6613197aFmtRows
import Derived.Test.Qxb6613197aFmtCards
import Derived.Test.Qxb6613197aFmtOpen
import Derived.Test.Qxb6613197aFmtReachMain
import Derived.Test.Qxb6613197aFmtTexts
import Derived.OpenShut
import Derived.SevenToldRow
namespace Go.Proofs.Qxb6613197aFmt.fnOutOfReachThreshold
open Go.ChangeShapes Go.WideShapes Go.ChangeAt Go.RowKit
open Go.Extern.Stop Go.Stop Go.Extern

set_option maxRecDepth 100000 in
theorem lifted (os : Os) (started : os.Started) (H : Type) (enc : TypeId × Value → H) :
    ReturnsInTold none {} Tryf.checked os 5 .any Input.okWide ((OpenSpec.ofChange Rows.fnOutOfReachThresholdSpec).preRow enc Tryf.prog Tryf.f5 [] false []) (fun F => ((OpenSpec.ofChange Rows.fnOutOfReachThresholdSpec).at F).post enc Tryf.prog Tryf.f5 false true false false) (aloneAtReturn Tryf.prog) nothingAlways := by
  refine returnsInTold_of_row (C := Tryf.checked) (s := OpenSpec.ofChange Rows.fnOutOfReachThresholdSpec) (by kernel_rfl) own started (by kernel_rfl) Tryf.func5
    (OpenSpec.witness_stopped (enc := enc) (C := Tryf.checked) false ⟨#[], #[.int .u64 0, .int .u64 0, .int .u64 0], []⟩ 8 (by kernel_rfl) (by kernel_rfl) (by kernel_rfl) (by kernel_rfl)) ?_
  intro F W base args ds gs before _ hF hval0 hW _ _ _ _ _
  have hval : ∀ (j : Nat) t v, Tryf.f5.params[j]? = some t → args[j]? = some v → Value.okWide Tryf.prog W .any base t v := hval0
  have hW' := hW
  obtain ⟨p, q, hA0, hV, rfl, _, _⟩ := hW
  have hA : DataW.TrodAll enc Tryf.prog W 0 (fun _ => true) true Tryf.f5.params.toList args.toList ds p := hA0
  rw [Tryf.params5] at hA hval
  obtain ⟨v0, v1, v2, d0, d1, d2, p0, p1, p2, rfl, rfl, rfl, h0, h1, h2⟩ := trodAll_three hA
  obtain ⟨rfl, rfl⟩ := trodVars_none hV
  obtain ⟨a, rfl, rfl, rfl, wa⟩ := open_int Tryf.underlying28 (hval 0 28 v0 rfl rfl) h0
  obtain ⟨b, rfl, rfl, rfl, wb⟩ := open_int Tryf.underlying28 (hval 1 28 v1 rfl rfl) h1
  obtain ⟨t, rfl, rfl, rfl, wt⟩ := open_int Tryf.underlying28 (hval 2 28 v2 rfl rfl) h2
  obtain ⟨la, ua⟩ := bounds_u64 wa
  obtain ⟨lb, ub⟩ := bounds_u64 wb
  obtain ⟨lt, ut⟩ := bounds_u64 wt
  clear hA0 hval0
  simp only [List.append_nil] at hW'
  have hwalk : Calls Tryf.prog 5 #[.int .u64 a, .int .u64 b, .int .u64 t] W fun e w' => e = .returned (.bool true) ∧ Below W.heap.size W w' := by
    by_cases hbig : 9007199254740991 < a ∨ 9007199254740991 < b
    · exact main5_big a b t W hbig
    · exact main5_any F.told (spoken F) a b t W hF la lb (by omega) (by omega) lt ut
  refine hwalk.mono fun e W' ⟨he, hnx⟩ => ?_
  subst he
  exact ⟨_, rfl, _, _, _, [], [], [], hW', trodAll_mk1 (shut_bool Tryf.underlying4 _), trodAll_mk3 (shut_int Tryf.underlying28 wa) (shut_int Tryf.underlying28 wb) (shut_int Tryf.underlying28 wt), rfl, hnx.frame _, fun h => by cases h⟩

/-- ████ THE STATEMENT: THE TOLD CARD ████ -/
theorem proved : Rows.FnOutOfReachThresholdToldSaid :=
  Claim7.holds_of_told_any 5 Tryf.f5 "fmt.errorf" ["fmt.Sprintf"] [] _ _ _ (by kernel_rfl) rfl rfl rfl laidOut (by kernel_rfl) rfl ⟨rfl, rfl, rfl, rfl, rfl, rfl, rfl⟩ rfl rfl (by kernel_rfl) (by kernel_rfl) Tryf.func5 (by kernel_rfl)
    (of_decide_eq_true (by kernel_rfl)) (by unfold Func.isWrapper; first | (rw [if_pos (by decide +kernel)]; kernel_rfl) | (rw [if_neg (by decide +kernel)]; exact ⟨rfl, rfl⟩)) stops.symm rfl stopKnobs.symm (by kernel_rfl)
    (by kernel_rfl) (by kernel_rfl) (by kernel_rfl) (by kernel_rfl) (by kernel_rfl) (by kernel_rfl) (by kernel_rfl) (by kernel_rfl) (by kernel_rfl) rfl (by kernel_rfl) rfl rfl
    rfl rfl
    rfl (by kernel_rfl) (by kernel_rfl) (by kernel_rfl) (by decide) (by kernel_rfl)
    (OpenClaim.moreEntering_of (by kernel_rfl) (by kernel_rfl) (by kernel_rfl) (by kernel_rfl) (by kernel_rfl) (by kernel_rfl) (by kernel_rfl) (by kernel_rfl) (by kernel_rfl) (by kernel_rfl))
    ⟨_, WideRow.started_initial, quiet _⟩
    (fun os started _ H enc _ => lifted os started H enc)
#print axioms proved
end Go.Proofs.Qxb6613197aFmt.fnOutOfReachThreshold
