/-
  DERIVED. GIVEN WITH THE SEED: THE CARDS: each row of Qxb6613197aFmtRows.lean that lists a variable, with what it lists TIED to the program's text (the seventh form; the later family's looks); each row that meets fmt, with fmt's text TOLD by the authors' own Lean function (tested against real Go, not proved from fmt's source: count such statements apart). THE CARD IS WHAT COUNTS. Prove the row's statement (the work); the ties are given (Qxb6613197aFmtTie.lean); close each card by the builder's one call (the guide's Derived/Test/ToyasCard.lean, 'card_holds'). Laid BY PROGRAM, IN A SANDBOX (cutbox-door.mjs). By AI agents, Wed Nov 11 2026. No macro, syntax, notation, axiom, sorry.
-/
import Derived.Test.Qxb6613197aFmtRows
import GoSem.ClaimSeven
namespace Go.Proofs.Qxb6613197aFmt
namespace Rows

/-- THE TOLD CARD OF 'zzlaws_core_b1.FnCheckServersRefusesExactlyRepeats'. -/
def fnCheckServersRefusesExactlyRepeatsCard : Claim7 := { stood := { row := fnCheckServersRefusesExactlyRepeatsRow, standIns := [], harness := (true, "00fde022b22aab3f273faf0f1f0b9dcb85323414a4b21f7e18da076db58486a8"), looks := false }, told := true, goes := false }
def FnCheckServersRefusesExactlyRepeatsToldSaid : Prop := Claim7.holds Tryf.pinned (.plain (OpenSpec.ofChange fnCheckServersRefusesExactlyRepeatsSpec)) fnCheckServersRefusesExactlyRepeatsCard
/-- ITS FALSE NEIGHBOUR. Refute it at one input. -/
def FnCheckServersRefusesExactlyRepeatsToldWrongFalsely : Prop := Claim7.holds Tryf.pinned (.plain (OpenSpec.ofChange fnCheckServersRefusesExactlyRepeatsWrong)) fnCheckServersRefusesExactlyRepeatsCard

/-- THE TOLD CARD OF 'zzlaws_core_b1.FnCheckServersJoin'. -/
def fnCheckServersJoinCard : Claim7 := { stood := { row := fnCheckServersJoinRow, standIns := [], harness := (true, "00fde022b22aab3f273faf0f1f0b9dcb85323414a4b21f7e18da076db58486a8"), looks := false }, told := true, goes := false }
def FnCheckServersJoinToldSaid : Prop := Claim7.holds Tryf.pinned (.plain (OpenSpec.ofChange fnCheckServersJoinSpec)) fnCheckServersJoinCard
/-- ITS FALSE NEIGHBOUR. Refute it at one input. -/
def FnCheckServersJoinToldWrongFalsely : Prop := Claim7.holds Tryf.pinned (.plain (OpenSpec.ofChange fnCheckServersJoinWrong)) fnCheckServersJoinCard

/-- THE TOLD CARD OF 'zzlaws_core_b1.FnOutOfReachThreshold'. -/
def fnOutOfReachThresholdCard : Claim7 := { stood := { row := fnOutOfReachThresholdRow, standIns := [], harness := (true, "00fde022b22aab3f273faf0f1f0b9dcb85323414a4b21f7e18da076db58486a8"), looks := false }, told := true, goes := false }
def FnOutOfReachThresholdToldSaid : Prop := Claim7.holds Tryf.pinned (.plain (OpenSpec.ofChange fnOutOfReachThresholdSpec)) fnOutOfReachThresholdCard
/-- ITS FALSE NEIGHBOUR. Refute it at one input. -/
def FnOutOfReachThresholdToldWrongFalsely : Prop := Claim7.holds Tryf.pinned (.plain (OpenSpec.ofChange fnOutOfReachThresholdWrong)) fnOutOfReachThresholdCard

/-- THE TOLD CARD OF 'zzlaws_core_b1.FnOutOfReachMonotoneInHeard'. -/
def fnOutOfReachMonotoneInHeardCard : Claim7 := { stood := { row := fnOutOfReachMonotoneInHeardRow, standIns := [], harness := (true, "00fde022b22aab3f273faf0f1f0b9dcb85323414a4b21f7e18da076db58486a8"), looks := false }, told := true, goes := false }
def FnOutOfReachMonotoneInHeardToldSaid : Prop := Claim7.holds Tryf.pinned (.plain (OpenSpec.ofChange fnOutOfReachMonotoneInHeardSpec)) fnOutOfReachMonotoneInHeardCard
/-- ITS FALSE NEIGHBOUR. Refute it at one input. -/
def FnOutOfReachMonotoneInHeardToldWrongFalsely : Prop := Claim7.holds Tryf.pinned (.plain (OpenSpec.ofChange fnOutOfReachMonotoneInHeardWrong)) fnOutOfReachMonotoneInHeardCard
end Rows
end Go.Proofs.Qxb6613197aFmt
