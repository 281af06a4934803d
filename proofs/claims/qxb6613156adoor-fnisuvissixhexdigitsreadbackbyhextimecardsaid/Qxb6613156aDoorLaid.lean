/-
  Seat b6613156aD: from the rows' condition ('laid') to the one cell that the walks read: math/bits.deBruijn64tab[15] = 4; and a start that meets the condition (the heap that the door's own run leaves).
-/
import Derived.Test.Qxb6613156aDoorRows
import Derived.Test.Qxb6613156aDoorMain
import Derived.ProofKit
import Derived.LaidMore
import Derived.OpenShut
import Derived.Stop.Joined
import Derived.Lib.LaidTab
namespace Go.Proofs.Qxb6613156aDoor
open Go.ChangeShapes Go.WideShapes Go.ChangeAt Go.RowKit

theorem own : ownKnob Tryd.prog.godebug = none := by kernel_rfl
def laid5 : List (String × DataW Unit) := Rows.fnIsLowerHexIsTheDigitHexTimeWritesRow.laid
def nTab : String := (laid5.map (·.1)).getD 1 ""
theorem gTab : Tryd.prog.globalNamed nTab = some 4 := by kernel_rfl
theorem tTab : (Tryd.prog.globals[4]?).map (·.type) = some 69 := by kernel_rfl
def tabZ : List Int := [0, 1, 56, 2, 57, 49, 28, 3, 61, 58, 42, 50, 38, 29, 17, 4, 62, 47, 59, 36, 45, 43, 51, 22, 53, 39, 33, 30, 24, 18, 12, 5, 63, 55, 48, 27, 60, 41, 37, 16, 46, 35, 44, 21, 52, 32, 23, 11, 54, 26, 40, 15, 34, 20, 31, 10, 25, 14, 19, 9, 13, 8, 7, 6]
theorem tab_eq : (Rows.laid_math_bits_deBruijn64tab : DataW Unit) = Lib.tabData .u8 tabZ := rfl
theorem cells5' : Tryd.prog.cellsOf 5 = 1 := by kernel_rfl
theorem cells69 : Tryd.prog.cellsOf 69 = 64 := by kernel_rfl
theorem under69 : Tryd.prog.underlying 69 = some (.array 64 5) := by kernel_rfl
/-- The door's own heap meets the condition. -/
theorem door_met (os : Os) (args : Array Value) : laidMetH Tryd.prog laid5 ((World.doorLaid Tryd.prog 400 os).forCall (fun _ _ => 0) ⟨#[], args, []⟩).memory :=
  laidMetH_of_parts3 (fuel := 8) (laidMet_of_run' 8 (by kernel_rfl) (by kernel_rfl)) (by kernel_rfl) (by kernel_rfl)
/-- What the condition gives the walks. -/
theorem of_laid {W : World} (h : laidMetH Tryd.prog laid5 W) : TabOK W := by
  rw [MakeChecks.laidMetH_plain _ _ _ (by kernel_rfl)] at h
  obtain ⟨ps, ⟨g0, t0, cs0, f0, p0, q0, hg0, ht0, hv0, hd0, ⟨g1, t1, cs1, f1, p1, q1, hg1, ht1, hv1, hd1, _, _⟩, _⟩, _, _⟩ := h
  obtain rfl := Option.some.inj (gTab.symm.trans hg1)
  obtain rfl := Option.some.inj (tTab.symm.trans ht1)
  rw [tab_eq] at hd1
  have hcs := Lib.cells_of_tab under69 Tryd.underlying5 cells5' cells69 hd1
  have hv2 : W.var? Tryd.prog nTab = some cs1 := hv1
  have hT : Lib.TabIs Tryd.prog W nTab .u8 tabZ := by
    unfold Lib.TabIs
    rw [hv2, ← hcs]
  have hc : W.cell? ⟨4, 15, none⟩ = some (.int .u8 4) := hT.cell gTab 15 (by decide)
  refine ⟨?_, hc⟩
  rcases Nat.lt_or_ge 4 W.heap.size with h | h
  · exact h
  · simp [World.cell?, Array.getElem?_eq_none h] at hc
end Go.Proofs.Qxb6613156aDoor
