/-
  Seat b6613197aF: THE TWO TEXTS OF fmt's THAT core.outOfReach ASKS FOR, TOLD (HOWTO 10.14): neither is empty.
-/
import Derived.Test.Qxb6613197aFmtReach
import Derived.Stop.FmtTextKit
import Derived.Stop.FmtTextVerbs
import Derived.Stop.Told
import Derived.Stop.Texts
namespace Go.Proofs.Qxb6613197aFmt
open Go.RowKit Go.Extern.Stop Go.Stop Go.Extern Go.Kit
def T2 (t : Int) : List UInt8 := [116, 101, 114, 109, 32] ++ Lib.itoa t ++ [32, 105, 115, 32, 97, 98, 111, 118, 101, 32] ++ Lib.itoa 9007199254740991 ++ [44, 32, 116, 104, 101, 32, 104, 105, 103, 104, 101, 115, 116, 32, 116, 101, 114, 109, 32, 111, 102, 32, 97, 32, 103, 114, 111, 117, 112]
def T3 (t h : Int) : List UInt8 := [116, 101, 114, 109, 32] ++ Lib.itoa t ++ [32, 105, 115, 32, 109, 111, 114, 101, 32, 116, 104, 97, 110, 32] ++ Lib.itoa 1048576 ++ [32, 97, 98, 111, 118, 101, 32, 116, 101, 114, 109, 32] ++ Lib.itoa h ++ [44, 32, 116, 104, 101, 32, 104, 105, 103, 104, 101, 115, 116, 32, 116, 104, 105, 115, 32, 115, 101, 114, 118, 101, 114, 32, 104, 97, 115, 32, 104, 101, 97, 114, 100, 32, 111, 102]
theorem wf_u64 {t : Int} (h0 : 0 ≤ t) (h1 : t ≤ 18446744073709551615) : (Lit.int .u64 t).wf = true := by
  simp [Lit.wf, IntKind.min, IntKind.max, IntKind.signed, IntKind.bits]; omega
theorem text2 (t : Int) (h0 : 0 ≤ t) (h1 : t ≤ 18446744073709551615) : FmtText.text "fmt.errorf" (R2 t) = some (T2 t) := by
  have wt := wf_u64 h0 h1
  have wm : (Lit.int .u64 9007199254740991).wf = true := wf_u64 (by omega) (by omega)
  have hi := FmtText.operand_int_at (sh := shape28) (k := .u64) rfl rfl t wt
  have hj := FmtText.operand_int_at (sh := shape28) (k := .u64) rfl rfl 9007199254740991 wm
  have e : R2 t = [F2, shape28, digits 8 (t % 18446744073709551616).toNat, shape28, digits 8 ((9007199254740991 : Int) % 18446744073709551616).toNat] := rfl
  rw [e, F2, FmtText.text_errorf_glued fmt2t (FmtText.operands_cons hi (FmtText.operands_cons hj FmtText.operands_nil))]
  have p1 := FmtText.printArg_d true [117, 105, 110, 116, 54, 52] wt
  have p2 := FmtText.printArg_d true [117, 105, 110, 116, 54, 52] wm
  have p2' : FmtText.printArg true {} 100 (.int [117, 105, 110, 116, 54, 52] IntKind.u64.signed 9007199254740991) = some (Lib.itoa 9007199254740991) := p2
  simp [FmtText.render, p1, p2', T2]
theorem text3 (t h : Int) (h0 : 0 ≤ t) (h1 : t ≤ 18446744073709551615) (h2 : 0 ≤ h) (h3 : h ≤ 18446744073709551615) : FmtText.text "fmt.Sprintf" (R3 t h) = some (T3 t h) := by
  have wt := wf_u64 h0 h1
  have wh := wf_u64 h2 h3
  have wm : (Lit.int .i64 1048576).wf = true := by decide
  have hi := FmtText.operand_int_at (sh := shape28) (k := .u64) rfl rfl t wt
  have hj := FmtText.operand_int_at (sh := shape3) (k := .i64) rfl rfl 1048576 wm
  have hk := FmtText.operand_int_at (sh := shape28) (k := .u64) rfl rfl h wh
  have e : R3 t h = [F3, shape28, digits 8 (t % 18446744073709551616).toNat, shape3, digits 8 ((1048576 : Int) % 18446744073709551616).toNat, shape28, digits 8 (h % 18446744073709551616).toNat] := rfl
  rw [e, F3, FmtText.text_sprintf_glued fmt3t (FmtText.operands_cons hi (FmtText.operands_cons hj (FmtText.operands_cons hk FmtText.operands_nil)))]
  have p1 := FmtText.printArg_d false [117, 105, 110, 116, 54, 52] wt
  have p2 := FmtText.printArg_d false [105, 110, 116] wm
  have p3 := FmtText.printArg_d false [117, 105, 110, 116, 54, 52] wh
  have p2' : FmtText.printArg false {} 100 (.int [105, 110, 116] IntKind.i64.signed 1048576) = some (Lib.itoa 1048576) := p2
  simp [FmtText.render, p1, p2', p3, T3]
theorem len2 (t : Int) (h0 : 0 ≤ t) (h1 : t ≤ 18446744073709551615) : (T2 t).length < 2 ^ 63 := by
  have a := FmtText.itoa_length_le (wf_u64 h0 h1)
  have c := FmtText.itoa_length_le (k := .u64) (x := 9007199254740991) (wf_u64 (by omega) (by omega))
  unfold T2
  simp only [List.length_append, List.length_cons, List.length_nil]
  omega
theorem len3 (t h : Int) (h0 : 0 ≤ t) (h1 : t ≤ 18446744073709551615) (h2 : 0 ≤ h) (h3 : h ≤ 18446744073709551615) : (T3 t h).length < 2 ^ 63 := by
  have a := FmtText.itoa_length_le (wf_u64 h0 h1)
  have c := FmtText.itoa_length_le (k := .i64) (x := 1048576) (by decide)
  have d := FmtText.itoa_length_le (wf_u64 h2 h3)
  unfold T3
  simp only [List.length_append, List.length_cons, List.length_nil]
  omega
/-- fmt's texts, told: neither is empty -/
theorem spoken (F : Interp) : Spoken F.told where
  far t h0 h1 := by
    rw [ByteArray.toList_eq, textOf_list, told_string F (text2 t h0 h1) (len2 t h0 h1)]; rfl
  near t h h0 h1 h2 h3 := by
    rw [ByteArray.toList_eq, textOf_list, told_string F (text3 t h h0 h1 h2 h3) (len3 t h h0 h1 h2 h3)]; rfl
end Go.Proofs.Qxb6613197aFmt
