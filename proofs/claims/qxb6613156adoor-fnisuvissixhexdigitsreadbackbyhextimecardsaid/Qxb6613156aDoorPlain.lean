/-
  Plain mathematics for seat b6613156aD: no Go in sight. 'lhex': is a byte a digit 0-9 or a letter a-f; 'nib': its value or -1; 'uvL': six lower hex digits.
-/
namespace Go.Proofs.Qxb6613156aDoor.Plain
def lhex (n : Int) : Bool := decide (48 ≤ n ∧ n ≤ 57 ∨ 97 ≤ n ∧ n ≤ 102)
def nib (n : Int) : Int := if 48 ≤ n ∧ n ≤ 57 then n - 48 else if 97 ≤ n ∧ n ≤ 102 then n - 87 else -1
def dig (v : Int) : Int := if v < 10 then 48 + v else 87 + v
def hexB (c : UInt8) : Bool := lhex c.toNat
def allB (l : List UInt8) : Bool := l.all hexB

theorem nib_neg (n : Int) : decide (nib n < 0) = !lhex n := by
  unfold nib lhex
  by_cases h1 : 48 ≤ n ∧ n ≤ 57
  · rw [if_pos h1]; simp [h1]
  · rw [if_neg h1]
    by_cases h2 : 97 ≤ n ∧ n ≤ 102
    · rw [if_pos h2]; simp [h2]; omega
    · rw [if_neg h2]; simp [h1, h2]

theorem nib_hit (c k : Int) (h0 : 0 ≤ k) (h1 : k < 16) (h : dig k = c) : k = nib c := by
  unfold dig at h; unfold nib
  by_cases h2 : k < 10
  · rw [if_pos h2] at h; rw [if_pos (by omega)]; omega
  · rw [if_neg h2] at h; rw [if_neg (by omega), if_pos (by omega)]; omega
theorem nib_miss (c : Int) (h : ∀ j : Nat, j < 16 → dig j ≠ c) : -1 = nib c := by
  unfold nib
  by_cases h1 : 48 ≤ c ∧ c ≤ 57
  · exact absurd (by unfold dig; rw [if_pos (by omega)]; omega) (h (c - 48).toNat (by omega))
  · rw [if_neg h1]
    by_cases h2 : 97 ≤ c ∧ c ≤ 102
    · exact absurd (by unfold dig; rw [if_neg (by omega)]; omega) (h (c - 87).toNat (by omega))
    · rw [if_neg h2]

theorem allB_append (a b : List UInt8) : allB (a ++ b) = (allB a && allB b) := by simp [allB]
theorem allB_cons (c : UInt8) (l : List UInt8) : allB (c :: l) = (hexB c && allB l) := by simp [allB]
theorem hexB_48 : hexB 48 = true := by decide


/-- the number that a list of hex digits spells -/
def hv (l : List UInt8) : Nat := l.foldl (fun a c => a * 16 + (nib c.toNat).toNat) 0
/-- the lower-case hex digit of v < 16 as a byte -/
def dg (v : Nat) : UInt8 := if v < 10 then UInt8.ofNat (48 + v) else UInt8.ofNat (87 + v)
/-- the hex numeral of u, at most f + 1 digits -/
def hexF : Nat → Nat → List UInt8
  | 0, u => [dg u]
  | f + 1, u => if u < 16 then [dg u] else hexF f (u / 16) ++ [dg (u % 16)]
/-- leading zeros dropped, at least one byte kept -/
def trim : List UInt8 → List UInt8
  | [] => []
  | c :: l => if c = 48 ∧ l ≠ [] then trim l else c :: l

theorem hv_snoc (l : List UInt8) (c : UInt8) : hv (l ++ [c]) = hv l * 16 + (nib c.toNat).toNat := by simp [hv]
theorem nib_hex {c : UInt8} (h : hexB c = true) : 0 ≤ nib c.toNat ∧ nib c.toNat < 16 := by
  unfold hexB lhex at h; unfold nib
  simp only [decide_eq_true_eq] at h
  by_cases h1 : 48 ≤ (c.toNat : Int) ∧ (c.toNat : Int) ≤ 57
  · rw [if_pos h1]; omega
  · rw [if_neg h1, if_pos (by omega)]; omega
theorem dg_nib {c : UInt8} (h : hexB c = true) : dg (nib c.toNat).toNat = c := by
  unfold hexB lhex at h
  simp only [decide_eq_true_eq] at h
  have hc : c = UInt8.ofNat c.toNat := by simp
  by_cases h1 : 48 ≤ (c.toNat : Int) ∧ (c.toNat : Int) ≤ 57
  · have hn : nib c.toNat = (c.toNat : Int) - 48 := by unfold nib; rw [if_pos h1]
    rw [hn]; unfold dg; rw [if_pos (by omega)]
    have : 48 + ((c.toNat : Int) - 48).toNat = c.toNat := by omega
    rw [this]; exact hc.symm
  · have hn : nib c.toNat = (c.toNat : Int) - 87 := by unfold nib; rw [if_neg h1, if_pos (by omega)]
    rw [hn]; unfold dg; rw [if_neg (by omega)]
    have : 87 + ((c.toNat : Int) - 87).toNat = c.toNat := by omega
    rw [this]; exact hc.symm
theorem dg_toNat (v : Nat) (h : v < 16) : ((dg v).toNat : Int) = dig v := by
  unfold dg dig
  by_cases h1 : v < 10
  · rw [if_pos h1, if_pos (by omega)]; simp [UInt8.toNat_ofNat']; omega
  · rw [if_neg h1, if_neg (by omega)]; simp [UInt8.toNat_ofNat']; omega
theorem hv_lt (l : List UInt8) (h : allB l = true) : hv l < 16 ^ l.length := by
  suffices H : ∀ (m : Nat) (l : List UInt8), l.length = m → allB l = true → hv l < 16 ^ m from H _ l rfl h
  intro m
  induction m with
  | zero => intro l hl _; cases l with
    | nil => decide
    | cons _ _ => simp at hl
  | succ m ih =>
    intro l hl ha
    have hne : l ≠ [] := by intro e; subst e; simp at hl
    have e := List.dropLast_concat_getLast hne
    rw [← e] at ha ⊢
    rw [allB_append] at ha
    simp only [Bool.and_eq_true] at ha
    have h1 := ih l.dropLast (by simp; omega) ha.1
    have h2 := nib_hex (c := l.getLast hne) (by simpa [allB] using ha.2)
    rw [hv_snoc, Nat.pow_succ]; omega
theorem hexF_pos (f u : Nat) : hexF f u ≠ [] := by
  cases f with
  | zero => simp [hexF]
  | succ f => unfold hexF; split <;> simp
theorem hv_zero_cons (l : List UInt8) : hv (48 :: l) = hv l := by
  have : (nib 48).toNat = 0 := by decide
  simp [hv, this]
theorem fold_ge (l : List UInt8) (a : Nat) : a ≤ l.foldl (fun a c => a * 16 + (nib c.toNat).toNat) a := by
  induction l generalizing a with
  | nil => simp
  | cons c l ih => simp only [List.foldl_cons]; exact Nat.le_trans (by omega) (ih _)
theorem nib_pos {c : UInt8} (h : hexB c = true) (h0 : c ≠ 48) : 0 < (nib c.toNat).toNat := by
  have hn := nib_hex h
  rcases Nat.lt_or_ge 0 (nib c.toNat).toNat with h1 | h1
  · exact h1
  · exact absurd (by rw [← dg_nib h, show (nib c.toNat).toNat = 0 by omega]; rfl) h0
theorem hv_pos {c : UInt8} (l : List UInt8) (h : hexB c = true) (h0 : c ≠ 48) : 0 < hv (c :: l) := by
  unfold hv
  simp only [List.foldl_cons]
  exact Nat.lt_of_lt_of_le (by have := nib_pos h h0; omega) (fold_ge l _)
theorem trim_snoc (p : List UInt8) (c : UInt8) (hne : p ≠ []) (ha : allB p = true) : trim (p ++ [c]) = if hv p = 0 then [c] else trim p ++ [c] := by
  induction p with
  | nil => exact absurd rfl hne
  | cons x q ih =>
    rw [allB_cons] at ha
    simp only [Bool.and_eq_true] at ha
    by_cases hx : x = 48
    · subst hx
      rw [hv_zero_cons, List.cons_append]
      cases q with
      | nil => simp [trim, hv]
      | cons y r =>
        rw [show trim (48 :: (y :: r ++ [c])) = trim (y :: r ++ [c]) by simp [trim], ih (by simp) ha.2]
        rw [show trim (48 :: y :: r) = trim (y :: r) by simp [trim]]
    · have h1 := hv_pos q ha.1 hx
      rw [if_neg (by omega), List.cons_append]
      simp [trim, hx]
/-- with as many digits as the fuel bears, the numeral of what a list of digits spells is the list without its leading zeros -/
theorem hexF_hv (f : Nat) (l : List UInt8) (hne : l ≠ []) (hl : l.length ≤ f + 1) (ha : allB l = true) : hexF f (hv l) = trim l := by
  suffices H : ∀ (m : Nat) (l : List UInt8), l.length = m → l ≠ [] → ∀ f, m ≤ f + 1 → allB l = true → hexF f (hv l) = trim l from H _ l rfl hne f hl ha
  intro m
  induction m with
  | zero => intro l h hne; cases l with
    | nil => exact absurd rfl hne
    | cons _ _ => simp at h
  | succ m ih =>
    intro l hlen hne f hf ha
    have e := List.dropLast_concat_getLast hne
    generalize hc : l.getLast hne = c at e
    generalize hp : l.dropLast = p at e
    subst e
    rw [allB_append] at ha
    simp only [Bool.and_eq_true] at ha
    have hcx : hexB c = true := by simpa [allB] using ha.2
    have hn := nib_hex hcx
    rw [hv_snoc]
    have hpl : p.length = m := by simpa using hlen
    cases p with
    | nil =>
      have e0 : hv ([] : List UInt8) = 0 := rfl
      rw [e0, Nat.zero_mul, Nat.zero_add]
      have : hexF f (nib c.toNat).toNat = [dg (nib c.toNat).toNat] := by
        cases f with
        | zero => rfl
        | succ f => unfold hexF; rw [if_pos (by omega)]
      rw [this, dg_nib hcx]; simp [trim]
    | cons x q =>
      obtain ⟨f, rfl⟩ : ∃ g, f = g + 1 := ⟨f - 1, by simp at hpl; omega⟩
      have hih := ih (x :: q) hpl (by simp) f (by omega) ha.1
      rw [trim_snoc (x :: q) c (by simp) ha.1]
      by_cases hz : hv (x :: q) = 0
      · rw [if_pos hz, hz, Nat.zero_mul, Nat.zero_add]
        unfold hexF; rw [if_pos (by omega), dg_nib hcx]
      · rw [if_neg hz, ← hih]
        have h1 : (hv (x :: q) * 16 + (nib c.toNat).toNat) / 16 = hv (x :: q) := by omega
        have h2 : (hv (x :: q) * 16 + (nib c.toNat).toNat) % 16 = (nib c.toNat).toNat := by omega
        rw [show hexF (f + 1) (hv (x :: q) * 16 + (nib c.toNat).toNat) = hexF f ((hv (x :: q) * 16 + (nib c.toNat).toNat) / 16) ++ [dg ((hv (x :: q) * 16 + (nib c.toNat).toNat) % 16)] by
          conv => lhs; unfold hexF
          rw [if_neg (by omega)], h1, h2, dg_nib hcx]
end Go.Proofs.Qxb6613156aDoor.Plain
