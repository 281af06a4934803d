/-
  DERIVED. GIVEN WITH THE SEED: THE CARDS: each row of Qxb6613156aDoorRows.lean that lists a variable, with what it lists TIED to the program's text (the seventh form; the later family's looks); each row that meets fmt, with fmt's text TOLD by the authors' own Lean function (tested against real Go, not proved from fmt's source: count such statements apart). THE CARD IS WHAT COUNTS. Prove the row's statement (the work); the ties are given (Qxb6613156aDoorTie.lean); close each card by the builder's one call (the guide's Derived/Test/ToyasCard.lean, 'card_holds'). Laid BY PROGRAM, IN A SANDBOX (cutbox-door.mjs). By AI agents, Wed Nov 11 2026. No macro, syntax, notation, axiom, sorry.
-/
import Derived.Test.Qxb6613156aDoorRows
import GoSem.ClaimSeven
namespace Go.Proofs.Qxb6613156aDoor
namespace Rows

/-- THE TIED CARD OF 'zzlaws_root_b1.FnIsLowerHexIsTheDigitHexTimeWrites'. -/
def fnIsLowerHexIsTheDigitHexTimeWritesCard : Claim7 := { stood := { row := fnIsLowerHexIsTheDigitHexTimeWritesRow, standIns := [], harness := (true, "9dea14cb79ce8b9a105b94d21f83b5579d158766d42a0d384fadb722e7b7e839"), looks := true }, kinds := [], alts := [], laidByText := true, laidKinds := [.data, .data, .data, .sentinel, .sentinel], laidTests := true, laidLooks := .later }
def FnIsLowerHexIsTheDigitHexTimeWritesCardSaid : Prop := Claim7.holds Tryd.pinned (.plain (OpenSpec.ofChange fnIsLowerHexIsTheDigitHexTimeWritesSpec)) fnIsLowerHexIsTheDigitHexTimeWritesCard

/-- THE TIED CARD OF 'zzlaws_root_b1.FnIsUvIsSixHexDigitsReadBackByHexTime'. -/
def fnIsUvIsSixHexDigitsReadBackByHexTimeCard : Claim7 := { stood := { row := fnIsUvIsSixHexDigitsReadBackByHexTimeRow, standIns := [], harness := (true, "9dea14cb79ce8b9a105b94d21f83b5579d158766d42a0d384fadb722e7b7e839"), looks := true }, kinds := [], alts := [], laidByText := true, laidKinds := [.data, .data, .data, .sentinel, .sentinel], laidTests := true, laidLooks := .later }
def FnIsUvIsSixHexDigitsReadBackByHexTimeCardSaid : Prop := Claim7.holds Tryd.pinned (.plain (OpenSpec.ofChange fnIsUvIsSixHexDigitsReadBackByHexTimeSpec)) fnIsUvIsSixHexDigitsReadBackByHexTimeCard
end Rows
end Go.Proofs.Qxb6613156aDoor
