/-
  Seat b6613197aF: what every row of the seat wants: the program's closed facts, and a slice of strings among the arguments opened as one list.
-/
import Derived.Test.Qxb6613197aFmtRows
import Derived.ProofKit
import Derived.SliceStrings
import Derived.Stop.JoinedAt
import Derived.Stop.JoinedTold
namespace Go.Proofs.Qxb6613197aFmt
open Go.ChangeShapes Go.WideShapes Go.ChangeAt Go.RowKit
theorem own : ownKnob Tryf.prog.godebug = none := by kernel_rfl
theorem laidOut : laidOutB Tryf.pinned.checked.prog = true := by kernel_rfl
theorem stops : Tryf.pinned.checked.prog.stops = ["fmt.errorf", "fmt.Sprintf"] := by kernel_rfl
theorem stopKnobs : Tryf.pinned.checked.prog.stopKnobs = [] := by kernel_rfl
theorem quiet (os : Os) : Stop.quiet Tryf.pinned.checked.prog os := by
  intro k hk
  rw [stopKnobs] at hk
  cases hk
theorem cells9 : Tryf.prog.cellsOf 9 = 1 := by kernel_rfl
theorem addr_of_cell {W : World} {a : Addr} {v : Value} (h : W.cell? a = some v) : ∃ b off, a = ⟨b, off, none⟩ ∧ b < W.heap.size := by
  obtain ⟨b, off, spot⟩ := a
  have hb : b < W.heap.size := by
    rcases Nat.lt_or_ge b W.heap.size with h' | h'
    · exact h'
    · simp [World.cell?, Array.getElem?_eq_none h'] at h
  cases spot with
  | none => exact ⟨b, off, rfl, hb⟩
  | some x =>
    unfold World.cell? at h
    split at h
    · simp at h
    · simp at h
theorem adr' (b o j : Nat) : (Addr.mk b o none).add j = ⟨b, o + j, none⟩ := by
  unfold Addr.add
  by_cases h : j = 0
  · rw [if_pos h, h]; rfl
  · rw [if_neg h]
theorem slice_cells {W : World} {a : Addr} {ss : List ByteArray} {len : Nat} (hl : len ≤ ss.length) (h0 : 0 < len)
    (hcell : ∀ i, i < ss.length → W.cell? (a.add i) = some (.string (ss.getD i ByteArray.empty))) :
    ∃ b off, a = ⟨b, off, none⟩ ∧ b < W.heap.size ∧ ∀ j (h : j < (ss.take len).length), W.cell? ⟨b, off + j, none⟩ = some (.string ((ss.take len)[j]'h)) := by
  have h1 := hcell 0 (by omega)
  have e0 : a.add 0 = a := by simp [Addr.add]
  rw [e0] at h1
  obtain ⟨b, off, rfl, hb⟩ := addr_of_cell h1
  refine ⟨b, off, rfl, hb, fun j h => ?_⟩
  have hj : j < ss.length := by rw [List.length_take] at h; omega
  have := hcell j hj
  rw [adr'] at this
  rw [this]
  simp [List.getD, List.getElem?_eq_getElem hj]
end Go.Proofs.Qxb6613197aFmt
