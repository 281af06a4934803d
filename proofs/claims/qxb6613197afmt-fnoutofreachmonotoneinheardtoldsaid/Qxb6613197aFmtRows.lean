/-
  No cell of these rows narrows 'for every input' (looked for: loops, veiled, ifaces, maps, wideKeys, modest, calm, conditions, laid).
  DERIVED. THE GIVEN ROWS OF THIS SEAT. 4 by the template 'for every input the law returns true; each argument reads behind the call as it read before'; 0 by the template 'total and deterministic' (their statements: Qxb6613197aFmtTotals.lean).
  GIVEN WITH THE SEED: the statements are not yours to turn. If you find one false, say at which input.
  Laid BY PROGRAM, IN A SANDBOX (cutbox-rows.mjs): the forced cells as the released guide's own fill.sh prints them over the translation 28b80e81d85c8ba0… (all of the seat's roots in one cut). By AI agents, Wed Nov 11 2026. No macro, syntax, notation, axiom, sorry.
-/
import Derived.Test.Qxb6613197aFmtChecked
import GoSem.Claim
import GoSem.ClaimJoined
import GoSem.ClaimMapViews
import Derived.JoinedTies
import Derived.KernelRfl
namespace Go.Proofs.Qxb6613197aFmt
/- THE CELL 'sum', in the pinned program and in every row, IS THE sha256 OF THE DUMP (.gsa) THAT Qxb6613197aFmtProg.lean LOADS. Nothing in Lean hashes anything: it is a label: what it is worth is what the hold of that sum in a sandbox is worth. -/
noncomputable def Tryf.pinned : Pinned := { name := "qxb6613197afmt", sum := "28b80e81d85c8ba0a98e171e71156dd7d31ffcbbd83f494f238074583bfbeed7", checked := Tryf.checked }
namespace Rows
def none {H : Type} : Left H := { results := [], args := [] }

/-- 'zzlaws_core_b1.FnCheckServersRefusesExactlyRepeats': WHATEVER THE INPUT: true; the input reads as it did. -/
def fnCheckServersRefusesExactlyRepeatsSpec : ChangeSpec := { name := "fnCheckServersRefusesExactlyRepeats", fn := fun _ => fun
  | [d] => { results := [.lit (.bool true)], args := [d] }
  | _ => none }
def fnCheckServersRefusesExactlyRepeatsRow : OpenClaim := { program := "qxb6613197afmt", sum := "28b80e81d85c8ba0a98e171e71156dd7d31ffcbbd83f494f238074583bfbeed7", func := "example.com/conclave/conclave/zzlaws_core_b1.FnCheckServersRefusesExactlyRepeats", spec := "fnCheckServersRefusesExactlyRepeats", stops := ["fmt.errorf", "fmt.Sprintf"], inPlace := ["fmt.errorf"], unfollowed := true, recurses := true, apart := false }
/-- NO THEOREM (fmt's text is open here; it may be false): for the released tool's asking of the row's closed facts alone. THE STATEMENT IS 'FnCheckServersRefusesExactlyRepeatsToldSaid' (Qxb6613197aFmtCards.lean). -/
def FnCheckServersRefusesExactlyRepeatsFormAsk : Prop := fnCheckServersRefusesExactlyRepeatsRow.holds Tryf.pinned (OpenSpec.ofChange fnCheckServersRefusesExactlyRepeatsSpec)

/-- ITS FALSE NEIGHBOUR: 'it returns false'. Refute it at one input. -/
def fnCheckServersRefusesExactlyRepeatsWrong : ChangeSpec := { name := "fnCheckServersRefusesExactlyRepeats", fn := fun _ => fun
  | [d] => { results := [.lit (.bool false)], args := [d] }
  | _ => none }
def FnCheckServersRefusesExactlyRepeatsWrongFormAsk : Prop := fnCheckServersRefusesExactlyRepeatsRow.holds Tryf.pinned (OpenSpec.ofChange fnCheckServersRefusesExactlyRepeatsWrong)

/-- 'zzlaws_core_b1.FnCheckServersJoin': WHATEVER THE INPUT: true; the input reads as it did. -/
def fnCheckServersJoinSpec : ChangeSpec := { name := "fnCheckServersJoin", fn := fun _ => fun
  | [d1, d2] => { results := [.lit (.bool true)], args := [d1, d2] }
  | _ => none }
def fnCheckServersJoinRow : OpenClaim := { program := "qxb6613197afmt", sum := "28b80e81d85c8ba0a98e171e71156dd7d31ffcbbd83f494f238074583bfbeed7", func := "example.com/conclave/conclave/zzlaws_core_b1.FnCheckServersJoin", spec := "fnCheckServersJoin", stops := ["fmt.errorf", "fmt.Sprintf"], inPlace := ["fmt.errorf"], unfollowed := true, recurses := true, apart := false }
/-- NO THEOREM (fmt's text is open here; it may be false): for the released tool's asking of the row's closed facts alone. THE STATEMENT IS 'FnCheckServersJoinToldSaid' (Qxb6613197aFmtCards.lean). -/
def FnCheckServersJoinFormAsk : Prop := fnCheckServersJoinRow.holds Tryf.pinned (OpenSpec.ofChange fnCheckServersJoinSpec)

/-- ITS FALSE NEIGHBOUR: 'it returns false'. Refute it at one input. -/
def fnCheckServersJoinWrong : ChangeSpec := { name := "fnCheckServersJoin", fn := fun _ => fun
  | [d1, d2] => { results := [.lit (.bool false)], args := [d1, d2] }
  | _ => none }
def FnCheckServersJoinWrongFormAsk : Prop := fnCheckServersJoinRow.holds Tryf.pinned (OpenSpec.ofChange fnCheckServersJoinWrong)

/-- 'zzlaws_core_b1.FnOutOfReachThreshold': WHATEVER THE INPUT: true; the input reads as it did. -/
def fnOutOfReachThresholdSpec : ChangeSpec := { name := "fnOutOfReachThreshold", fn := fun _ => fun
  | [d1, d2, d3] => { results := [.lit (.bool true)], args := [d1, d2, d3] }
  | _ => none }
def fnOutOfReachThresholdRow : OpenClaim := { program := "qxb6613197afmt", sum := "28b80e81d85c8ba0a98e171e71156dd7d31ffcbbd83f494f238074583bfbeed7", func := "example.com/conclave/conclave/zzlaws_core_b1.FnOutOfReachThreshold", spec := "fnOutOfReachThreshold", stops := ["fmt.errorf", "fmt.Sprintf"], inPlace := ["fmt.errorf", "fmt.Sprintf"], unfollowed := true, recurses := true, apart := false }
/-- NO THEOREM (fmt's text is open here; it may be false): for the released tool's asking of the row's closed facts alone. THE STATEMENT IS 'FnOutOfReachThresholdToldSaid' (Qxb6613197aFmtCards.lean). -/
def FnOutOfReachThresholdFormAsk : Prop := fnOutOfReachThresholdRow.holds Tryf.pinned (OpenSpec.ofChange fnOutOfReachThresholdSpec)

/-- ITS FALSE NEIGHBOUR: 'it returns false'. Refute it at one input. -/
def fnOutOfReachThresholdWrong : ChangeSpec := { name := "fnOutOfReachThreshold", fn := fun _ => fun
  | [d1, d2, d3] => { results := [.lit (.bool false)], args := [d1, d2, d3] }
  | _ => none }
def FnOutOfReachThresholdWrongFormAsk : Prop := fnOutOfReachThresholdRow.holds Tryf.pinned (OpenSpec.ofChange fnOutOfReachThresholdWrong)

/-- 'zzlaws_core_b1.FnOutOfReachMonotoneInHeard': WHATEVER THE INPUT: true; the input reads as it did. -/
def fnOutOfReachMonotoneInHeardSpec : ChangeSpec := { name := "fnOutOfReachMonotoneInHeard", fn := fun _ => fun
  | [d1, d2, d3, d4] => { results := [.lit (.bool true)], args := [d1, d2, d3, d4] }
  | _ => none }
def fnOutOfReachMonotoneInHeardRow : OpenClaim := { program := "qxb6613197afmt", sum := "28b80e81d85c8ba0a98e171e71156dd7d31ffcbbd83f494f238074583bfbeed7", func := "example.com/conclave/conclave/zzlaws_core_b1.FnOutOfReachMonotoneInHeard", spec := "fnOutOfReachMonotoneInHeard", stops := ["fmt.errorf", "fmt.Sprintf"], inPlace := ["fmt.errorf", "fmt.Sprintf"], unfollowed := true, recurses := true, apart := false }
/-- NO THEOREM (fmt's text is open here; it may be false): for the released tool's asking of the row's closed facts alone. THE STATEMENT IS 'FnOutOfReachMonotoneInHeardToldSaid' (Qxb6613197aFmtCards.lean). -/
def FnOutOfReachMonotoneInHeardFormAsk : Prop := fnOutOfReachMonotoneInHeardRow.holds Tryf.pinned (OpenSpec.ofChange fnOutOfReachMonotoneInHeardSpec)

/-- ITS FALSE NEIGHBOUR: 'it returns false'. Refute it at one input. -/
def fnOutOfReachMonotoneInHeardWrong : ChangeSpec := { name := "fnOutOfReachMonotoneInHeard", fn := fun _ => fun
  | [d1, d2, d3, d4] => { results := [.lit (.bool false)], args := [d1, d2, d3, d4] }
  | _ => none }
def FnOutOfReachMonotoneInHeardWrongFormAsk : Prop := fnOutOfReachMonotoneInHeardRow.holds Tryf.pinned (OpenSpec.ofChange fnOutOfReachMonotoneInHeardWrong)

end Rows
end Go.Proofs.Qxb6613197aFmt
