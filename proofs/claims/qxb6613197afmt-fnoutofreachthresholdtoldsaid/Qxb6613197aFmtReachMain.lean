import Derived.Test.Qxb6613197aFmtReach
namespace Go.Proofs.Qxb6613197aFmt
open Go.RowKit Go.Extern.Stop Go.Stop Go.Extern
theorem maxU_comm (a b : Int) : maxU b a = maxU a b := by unfold maxU; split <;> split <;> omega
theorem reach_comm (a b : Int) : reach b a = reach a b := by unfold reach; rw [maxU_comm]
/-- a new election, as the later calls want it -/
theorem newElec (a b : Int) (w : World) : Calls Tryf.prog 10 #[.slice none 0 0, .int .u64 0, .int .u64 0, .string ⟨#[]⟩, .slice none 0 0, .int .u64 a, .int .u64 b] w fun e w' => e = .returned (.pointer (some ⟨w.heap.size, 0, none⟩)) ∧ Below w.heap.size w w' ∧ Elec w' w.heap.size a b :=
  (newElection_any a b w).mono fun _ _ ⟨he, hb, hs, h1, h2⟩ => ⟨he, hb, hs, h1, h2⟩
set_option maxHeartbeats 1000000 in
theorem main5_big (a b t : Int) (w : World) (h : 9007199254740991 < a ∨ 9007199254740991 < b) :
    Calls Tryf.prog 5 #[.int .u64 a, .int .u64 b, .int .u64 t] w fun e w' => e = .returned (.bool true) ∧ Below w.heap.size w w' := by
  by_cases ha : 9007199254740991 < a
  · go_enter Tryf.func5, Tryf.ntmps5
    go_wp2
    go_ret
    exact ⟨rfl, Below.refl _ _⟩
  · have hb : 9007199254740991 < b := by omega
    go_enter Tryf.func5, Tryf.ntmps5
    go_wp2
    go_ret
    exact ⟨rfl, Below.refl _ _⟩
set_option maxHeartbeats 1000000 in
theorem main5_any (F : Interp) (hS : Spoken F) (a b t : Int) (w : World) (hF : F.answers w.tape) (ha : 0 ≤ a) (hb : 0 ≤ b) (ha1 : a ≤ 9007199254740991) (hb1 : b ≤ 9007199254740991) (ht0 : 0 ≤ t) (ht1 : t ≤ 18446744073709551615) :
    Calls Tryf.prog 5 #[.int .u64 a, .int .u64 b, .int .u64 t] w fun e w' => e = .returned (.bool true) ∧ Below w.heap.size w w' := by
  have HF := Lib.hid hF
  have HS := Lib.hid hS
  have HRC : Hid (reach b a = reach a b) := reach_comm a b
  clear hF hS
  by_cases hr : t ≤ reach a b
  · go_enter Tryf.func5, Tryf.ntmps5
    go_wp2_with fail
    refine (newElec a b _).mono ?_
    rintro e w1 ⟨rfl, hB1, hE1⟩
    go_wp2_with fail
    refine (newElec b a _).mono ?_
    rintro e w2 ⟨rfl, hB2, hE2⟩
    have HE1 : Hid (Elec w2 w.heap.size a b) := hE1.below hB2
    have HB2 : Hid (Below w.heap.size w w2) := hB1.trans (hB2.mono hB1.size)
    have HE2 := Lib.hid hE2
    clear hE1 hB1 hB2 hE2
    go_wp2_with fail
    refine (zz_near _ a b t _ HE1.out ha hb ha1 hb1 hr).mono ?_
    rintro e w3 ⟨rfl, hB3⟩
    have HE3 : Hid (Elec w3 w1.heap.size b a) := HE2.out.below hB3
    have HB3 : Hid (Below w.heap.size w w3) := HB2.out.trans (hB3.mono HB2.out.size)
    clear hB3
    go_wp2_with fail
    refine (zz_near _ b a t _ HE3.out hb ha hb1 ha1 (by rw [HRC.out]; exact hr)).mono ?_
    rintro e w4 ⟨rfl, hB4⟩
    have HB4 : Hid (Below w.heap.size w w4) := HB3.out.trans (hB4.mono HB3.out.size)
    clear hB4
    go_wp2_with (go_at_call 12; refine (reach_any a b ha hb ha1 hb1 _).mono ?_; rintro e w5 ⟨rfl, hw5⟩; replace hw5 := hw5.symm; subst hw5)
    go_ret
    exact ⟨rfl, HB4.out⟩
  · have hr' : reach a b < t := by omega
    go_enter Tryf.func5, Tryf.ntmps5
    go_wp2_with fail
    refine (newElec a b _).mono ?_
    rintro e w1 ⟨rfl, hB1, hE1⟩
    go_wp2_with fail
    refine (newElec b a _).mono ?_
    rintro e w2 ⟨rfl, hB2, hE2⟩
    have HE1 : Hid (Elec w2 w.heap.size a b) := hE1.below hB2
    have HB2 : Hid (Below w.heap.size w w2) := hB1.trans (hB2.mono hB1.size)
    have HE2 := Lib.hid hE2
    have HF2 : Hid (F.answers w2.tape) := by unfold Hid; rw [HB2.out.tape]; exact HF.out
    clear hE1 hB1 hB2 hE2
    go_wp2_with fail
    refine (zz_far F HS.out _ a b t _ HF2.out HE1.out ha hb ha1 hb1 ht0 ht1 hr').mono ?_
    rintro e w3 ⟨s3, rfl, hs3, hB3⟩
    have HE3 : Hid (Elec w3 w1.heap.size b a) := HE2.out.below hB3
    have HB3 : Hid (Below w.heap.size w w3) := HB2.out.trans (hB3.mono HB2.out.size)
    have HF3 : Hid (F.answers w3.tape) := by unfold Hid; rw [hB3.tape]; exact HF2.out
    clear hB3
    go_wp2_with fail
    refine (zz_far F HS.out _ b a t _ HF3.out HE3.out hb ha hb1 ha1 ht0 ht1 (by rw [HRC.out]; exact hr')).mono ?_
    rintro e w4 ⟨s4, rfl, hs4, hB4⟩
    have HB4 : Hid (Below w.heap.size w w4) := HB3.out.trans (hB4.mono HB3.out.size)
    clear hB4
    go_wp2_with (go_at_call 12; refine (reach_any a b ha hb ha1 hb1 _).mono ?_; rintro e w5 ⟨rfl, hw5⟩; replace hw5 := hw5.symm; subst hw5)
    go_ret
    exact ⟨ret_bool (by simp; omega), HB4.out⟩
theorem maxU_ge (b c : Int) : b ≤ maxU b c := by unfold maxU; split <;> omega
theorem maxU_le (b c m : Int) (hb : b ≤ m) (hc : c ≤ m) : maxU b c ≤ m := by unfold maxU; split <;> omega
theorem maxU_mono (a b c : Int) (h : b ≤ c) : maxU a b ≤ maxU a c := by unfold maxU; split <;> split <;> omega
theorem reach_mono (a b c : Int) (h : b ≤ c) : reach a b ≤ reach a c := by
  have := maxU_mono a b c h
  unfold reach; split <;> split <;> omega
theorem heard_reach (a b : Int) (h : maxU a b ≤ 9007199254740991) : maxU a b ≤ reach a b := by unfold reach; split <;> omega
theorem reach_bd (a b : Int) (h : 0 ≤ maxU a b) : 0 ≤ reach a b ∧ reach a b ≤ 9007199254740991 := by unfold reach; split <;> omega
set_option maxHeartbeats 1000000 in
theorem main6_big (a b c t : Int) (w : World) (h : 9007199254740991 < a ∨ 9007199254740991 < b ∨ 9007199254740991 < c) :
    Calls Tryf.prog 6 #[.int .u64 a, .int .u64 b, .int .u64 c, .int .u64 t] w fun e w' => e = .returned (.bool true) ∧ Below w.heap.size w w' := by
  by_cases ha : 9007199254740991 < a
  · go_enter Tryf.func6, Tryf.ntmps6
    go_wp2
    go_ret
    exact ⟨rfl, Below.refl _ _⟩
  · by_cases hb : 9007199254740991 < b
    · go_enter Tryf.func6, Tryf.ntmps6
      go_wp2
      go_ret
      exact ⟨rfl, Below.refl _ _⟩
    · have hc : 9007199254740991 < c := by omega
      go_enter Tryf.func6, Tryf.ntmps6
      go_wp2
      go_ret
      exact ⟨rfl, Below.refl _ _⟩
/-- outOfReach at whatever term: some text, empty exactly where the term is reachable -/
theorem zz_any (F : Interp) (hS : Spoken F) (p : Nat) (a b t : Int) (w : World) (hF : F.answers w.tape) (hE : Elec w p a b) (ha : 0 ≤ a) (hb : 0 ≤ b) (ha1 : a ≤ 9007199254740991) (hb1 : b ≤ 9007199254740991)
    (ht0 : 0 ≤ t) (ht1 : t ≤ 18446744073709551615) :
    Calls Tryf.prog 11 #[.pointer (some ⟨p, 0, none⟩), .int .u64 t] w fun e w' => ∃ s : ByteArray, e = .returned (.string s) ∧ s.toList.isEmpty = decide (t ≤ reach a b) ∧ Below w.heap.size w w' := by
  by_cases h : t ≤ reach a b
  · exact (zz_near p a b t w hE ha hb ha1 hb1 h).mono fun e w' ⟨he, hB⟩ => ⟨_, he, by rw [decide_eq_true h, ByteArray.toList_eq]; rfl, hB⟩
  · exact (zz_far F hS p a b t w hF hE ha hb ha1 hb1 ht0 ht1 (by omega)).mono fun e w' ⟨s, he, hs, hB⟩ => ⟨s, he, by rw [decide_eq_false h]; exact hs, hB⟩
set_option maxHeartbeats 2000000 in
theorem main6_any (F : Interp) (hS : Spoken F) (a b c t : Int) (w : World) (hF : F.answers w.tape) (ha : 0 ≤ a) (hb : 0 ≤ b) (hc : 0 ≤ c) (ha1 : a ≤ 9007199254740991) (hb1 : b ≤ 9007199254740991) (hc1 : c ≤ 9007199254740991) (ht0 : 0 ≤ t) (ht1 : t ≤ 18446744073709551615) :
    Calls Tryf.prog 6 #[.int .u64 a, .int .u64 b, .int .u64 c, .int .u64 t] w fun e w' => e = .returned (.bool true) ∧ Below w.heap.size w w' := by
  have HF := Lib.hid hF
  have HS := Lib.hid hS
  obtain ⟨m0, m1⟩ := maxU_bd hb hc hb1 hc1
  obtain ⟨h0, h1⟩ := maxU_bd ha hb ha1 hb1
  have HMON : Hid (reach a b ≤ reach a (maxU b c)) := reach_mono a b _ (maxU_ge b c)
  have HHR : Hid (maxU a b ≤ reach a b) := heard_reach a b h1
  obtain ⟨r0, r1⟩ := reach_bd a b h0
  clear hF hS
  obtain ⟨R1, hR1⟩ : ∃ R1 : Bool, R1 = decide (t ≤ reach a b) := ⟨_, rfl⟩
  obtain ⟨R2', hR2⟩ : ∃ R2 : Bool, R2 = decide (t ≤ reach a (maxU b c)) := ⟨_, rfl⟩
  have hMON : R1 = true → R2' = true := fun h => by
    rw [hR1] at h; rw [hR2]
    have := HMON.out
    simp only [decide_eq_true_eq] at h ⊢; omega
  have HMON2 := Lib.hid hMON
  have HR1 := Lib.hid hR1
  have HR2 := Lib.hid hR2
  clear hMON hR1 hR2
  go_enter Tryf.func6, Tryf.ntmps6
  go_wp2_with fail
  refine (newElec a b _).mono ?_
  rintro e w1 ⟨rfl, hB1, hE1⟩
  go_wp2_with (go_at_call 13; refine (maxU_any _ _ _).mono ?_; rintro e wz ⟨rfl, hwz⟩; replace hwz := hwz.symm; subst hwz)
  refine (newElec a (maxU b c) _).mono ?_
  rintro e w2 ⟨rfl, hB2, hE2⟩
  have HE1 : Hid (Elec w2 w.heap.size a b) := hE1.below hB2
  have HB2 : Hid (Below w.heap.size w w2) := hB1.trans (hB2.mono hB1.size)
  have HE2 := Lib.hid hE2
  have HF2 : Hid (F.answers w2.tape) := by unfold Hid; rw [HB2.out.tape]; exact HF.out
  clear hE1 hB1 hB2 hE2
  go_wp2_with fail
  refine (zz_any F HS.out _ a b t _ HF2.out HE1.out ha hb ha1 hb1 ht0 ht1).mono ?_
  rintro e w3 ⟨s3, rfl, hs3, hB3⟩
  rw [← HR1.out] at hs3
  have HE3 : Hid (Elec w3 w1.heap.size a (maxU b c)) := HE2.out.below hB3
  have HE31 : Hid (Elec w3 w.heap.size a b) := HE1.out.below hB3
  have HB3 : Hid (Below w.heap.size w w3) := HB2.out.trans (hB3.mono HB2.out.size)
  have HF3 : Hid (F.answers w3.tape) := by unfold Hid; rw [hB3.tape]; exact HF2.out
  clear hB3 HE1 HE2 HB2 HF2
  go_wp2_with fail
  refine (zz_any F HS.out _ a (maxU b c) t _ HF3.out HE3.out ha m0 ha1 m1 ht0 ht1).mono ?_
  rintro e w4 ⟨s4, rfl, hs4, hB4⟩
  rw [← HR2.out] at hs4
  have HE4 : Hid (Elec w4 w.heap.size a b) := HE31.out.below hB4
  have HB4 : Hid (Below w.heap.size w w4) := HB3.out.trans (hB4.mono HB3.out.size)
  have HF4 : Hid (F.answers w4.tape) := by unfold Hid; rw [hB4.tape]; exact HF3.out
  clear hB4 HE3 HE31 HB3 HF3
  have hcase : (R1 = true ∧ R2' = true) ∨ R1 = false := by
    cases h : R1 with
    | true => exact Or.inl ⟨rfl, HMON2.out h⟩
    | false => exact Or.inr rfl
  clear HMON HMON2 HR1 HR2
  rcases hcase with ⟨hA, hB⟩ | hA
  · subst hA
    subst hB
    go_wp2_with (first
      | (go_at_call 13; refine (maxU_any _ _ _).mono ?_; rintro e wz ⟨rfl, hwz⟩; replace hwz := hwz.symm; subst hwz)
      | (go_at_call 12; refine (reach_any a b ha hb ha1 hb1 _).mono ?_; rintro e wz ⟨rfl, hwz⟩; replace hwz := hwz.symm; subst hwz))
    refine (zz_near _ a b (maxU a b) _ HE4.out ha hb ha1 hb1 HHR.out).mono ?_
    rintro e w5 ⟨rfl, hB5⟩
    have HE5 : Hid (Elec w5 w.heap.size a b) := HE4.out.below hB5
    have HB5 : Hid (Below w.heap.size w w5) := HB4.out.trans (hB5.mono HB4.out.size)
    have HF5 : Hid (F.answers w5.tape) := by unfold Hid; rw [hB5.tape]; exact HF4.out
    clear hB5 HE4 HB4 HF4
    go_wp2_with fail
    refine (zz_far F HS.out _ a b (reach a b + 1) _ HF5.out HE5.out ha hb ha1 hb1 (by omega) (by omega) (by omega)).mono ?_
    rintro e w6 ⟨s6, rfl, hs6, hB6⟩
    have HB6 : Hid (Below w.heap.size w w6) := HB5.out.trans (hB6.mono HB5.out.size)
    clear hB6
    go_wp2
    go_ret
    exact ⟨rfl, HB6.out⟩
  · subst hA
    go_wp2_with (first
      | (go_at_call 13; refine (maxU_any _ _ _).mono ?_; rintro e wz ⟨rfl, hwz⟩; replace hwz := hwz.symm; subst hwz)
      | (go_at_call 12; refine (reach_any a b ha hb ha1 hb1 _).mono ?_; rintro e wz ⟨rfl, hwz⟩; replace hwz := hwz.symm; subst hwz))
    refine (zz_near _ a b (maxU a b) _ HE4.out ha hb ha1 hb1 HHR.out).mono ?_
    rintro e w5 ⟨rfl, hB5⟩
    have HE5 : Hid (Elec w5 w.heap.size a b) := HE4.out.below hB5
    have HB5 : Hid (Below w.heap.size w w5) := HB4.out.trans (hB5.mono HB4.out.size)
    have HF5 : Hid (F.answers w5.tape) := by unfold Hid; rw [hB5.tape]; exact HF4.out
    clear hB5 HE4 HB4 HF4
    go_wp2_with fail
    refine (zz_far F HS.out _ a b (reach a b + 1) _ HF5.out HE5.out ha hb ha1 hb1 (by omega) (by omega) (by omega)).mono ?_
    rintro e w6 ⟨s6, rfl, hs6, hB6⟩
    have HB6 : Hid (Below w.heap.size w w6) := HB5.out.trans (hB6.mono HB5.out.size)
    clear hB6
    go_wp2
    go_ret
    exact ⟨rfl, HB6.out⟩
end Go.Proofs.Qxb6613197aFmt
