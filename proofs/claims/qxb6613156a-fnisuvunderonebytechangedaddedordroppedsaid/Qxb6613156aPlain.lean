/-
  Plain mathematics for seat b6613156a: no Go in sight. 'lhex': is a byte a digit 0-9 or a letter a-f; 'nib': its value or -1; 'uvL': six lower hex digits.
-/
namespace Go.Proofs.Qxb6613156a.Plain
def lhex (n : Int) : Bool := decide (48 ≤ n ∧ n ≤ 57 ∨ 97 ≤ n ∧ n ≤ 102)
def nib (n : Int) : Int := if 48 ≤ n ∧ n ≤ 57 then n - 48 else if 97 ≤ n ∧ n ≤ 102 then n - 87 else -1
def dig (v : Int) : Int := if v < 10 then 48 + v else 87 + v
def hexB (c : UInt8) : Bool := lhex c.toNat
def allB (l : List UInt8) : Bool := l.all hexB
def uvL (l : List UInt8) : Bool := decide (l.length = 6) && allB l

theorem nib_neg (n : Int) : decide (nib n < 0) = !lhex n := by
  unfold nib lhex
  by_cases h1 : 48 ≤ n ∧ n ≤ 57
  · rw [if_pos h1]; simp [h1]
  · rw [if_neg h1]
    by_cases h2 : 97 ≤ n ∧ n ≤ 102
    · rw [if_pos h2]; simp [h2]; omega
    · rw [if_neg h2]; simp [h1, h2]

theorem nib_hit (c k : Int) (h0 : 0 ≤ k) (h1 : k < 16) (h : dig k = c) : k = nib c := by
  unfold dig at h; unfold nib
  by_cases h2 : k < 10
  · rw [if_pos h2] at h; rw [if_pos (by omega)]; omega
  · rw [if_neg h2] at h; rw [if_neg (by omega), if_pos (by omega)]; omega
theorem nib_miss (c : Int) (h : ∀ j : Nat, j < 16 → dig j ≠ c) : -1 = nib c := by
  unfold nib
  by_cases h1 : 48 ≤ c ∧ c ≤ 57
  · exact absurd (by unfold dig; rw [if_pos (by omega)]; omega) (h (c - 48).toNat (by omega))
  · rw [if_neg h1]
    by_cases h2 : 97 ≤ c ∧ c ≤ 102
    · exact absurd (by unfold dig; rw [if_neg (by omega)]; omega) (h (c - 87).toNat (by omega))
    · rw [if_neg h2]

theorem allB_append (a b : List UInt8) : allB (a ++ b) = (allB a && allB b) := by simp [allB]
theorem allB_cons (c : UInt8) (l : List UInt8) : allB (c :: l) = (hexB c && allB l) := by simp [allB]
theorem hexB_48 : hexB 48 = true := by decide

/-- putting c in at k, against putting '0' in -/
theorem put_law (a b : List UInt8) (c : UInt8) : uvL (a ++ [c] ++ b) = (uvL (a ++ [48] ++ b) && hexB c) := by
  unfold uvL
  simp only [allB_append, allB_cons, hexB_48, List.length_append, List.append_assoc, List.singleton_append, Bool.true_and]
  cases hexB c <;> cases allB a <;> cases allB b <;> simp
/-- dropping a byte of a uv leaves none -/
theorem drop_law (l : List UInt8) (k : Nat) (hk : k < l.length) (h : uvL l = true) : uvL (l.take k ++ l.drop (k + 1)) = false := by
  unfold uvL at h ⊢
  simp only [Bool.and_eq_true, decide_eq_true_eq] at h
  have hl : (l.take k ++ l.drop (k + 1)).length = 5 := by simp; omega
  rw [hl]; rfl
end Go.Proofs.Qxb6613156a.Plain
