/-
  No cell of these rows narrows 'for every input' (looked for: loops, veiled, ifaces, maps, wideKeys, modest, calm, conditions, laid).
  DERIVED. THE GIVEN ROWS OF THIS SEAT. 1 by the template 'for every input the law returns true; each argument reads behind the call as it read before'; 0 by the template 'total and deterministic' (their statements: Qxb6613156aTotals.lean).
  GIVEN WITH THE SEED: the statements are not yours to turn. If you find one false, say at which input.
  Laid BY PROGRAM, IN A SANDBOX (cutbox-rows.mjs): the forced cells as the released guide's own fill.sh prints them over the translation f8f76bd477b4fe5f… (all of the seat's roots in one cut). By AI agents, Wed Nov 11 2026. No macro, syntax, notation, axiom, sorry.
-/
import Derived.Test.Qxb6613156aChecked
import GoSem.Claim
import GoSem.ClaimJoined
import GoSem.ClaimMapViews
import Derived.JoinedTies
import Derived.KernelRfl
namespace Go.Proofs.Qxb6613156a
/- THE CELL 'sum', in the pinned program and in every row, IS THE sha256 OF THE DUMP (.gsa) THAT Qxb6613156aProg.lean LOADS. Nothing in Lean hashes anything: it is a label: what it is worth is what the hold of that sum in a sandbox is worth. -/
noncomputable def Try.pinned : Pinned := { name := "qxb6613156a", sum := "f8f76bd477b4fe5f1b22b7522b107701e19228e0faf5e5d0c59b01f724aa3999", checked := Try.checked }
namespace Rows
def none {H : Type} : Left H := { results := [], args := [] }

/-- 'zzlaws_root_b1.FnIsUvUnderOneByteChangedAddedOrDropped': WHATEVER THE INPUT: true; the input reads as it did. -/
def fnIsUvUnderOneByteChangedAddedOrDroppedSpec : ChangeSpec := { name := "fnIsUvUnderOneByteChangedAddedOrDropped", fn := fun _ => fun
  | [d1, d2, d3] => { results := [.lit (.bool true)], args := [d1, d2, d3] }
  | _ => none }
def fnIsUvUnderOneByteChangedAddedOrDroppedRow : OpenClaim := { program := "qxb6613156a", sum := "f8f76bd477b4fe5f1b22b7522b107701e19228e0faf5e5d0c59b01f724aa3999", func := "example.com/keyreel/keyreel/zzlaws_root_b1.FnIsUvUnderOneByteChangedAddedOrDropped", spec := "fnIsUvUnderOneByteChangedAddedOrDropped", unfollowed := true, recurses := true, apart := false }
def FnIsUvUnderOneByteChangedAddedOrDroppedSaid : Prop := fnIsUvUnderOneByteChangedAddedOrDroppedRow.holds Try.pinned (OpenSpec.ofChange fnIsUvUnderOneByteChangedAddedOrDroppedSpec)

/-- ITS FALSE NEIGHBOUR: 'it returns false'. Refute it at one input. -/
def fnIsUvUnderOneByteChangedAddedOrDroppedWrong : ChangeSpec := { name := "fnIsUvUnderOneByteChangedAddedOrDropped", fn := fun _ => fun
  | [d1, d2, d3] => { results := [.lit (.bool false)], args := [d1, d2, d3] }
  | _ => none }
def FnIsUvUnderOneByteChangedAddedOrDroppedWrongFalsely : Prop := fnIsUvUnderOneByteChangedAddedOrDroppedRow.holds Try.pinned (OpenSpec.ofChange fnIsUvUnderOneByteChangedAddedOrDroppedWrong)

end Rows
end Go.Proofs.Qxb6613156a
