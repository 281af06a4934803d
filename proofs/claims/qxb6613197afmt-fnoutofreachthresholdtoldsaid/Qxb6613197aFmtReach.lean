import Derived.Test.Qxb6613197aFmtServers
import Derived.RegionTactic
import Derived.Laws.IdiomStrings
import Derived.ChangeAlike
namespace Go.Proofs.Qxb6613197aFmt
open Go.RowKit Go.Extern.Stop Go.Stop Go.Extern
def maxU (a b : Int) : Int := if b < a then a else b
set_option maxHeartbeats 400000 in
theorem maxU_any (a b : Int) (w : World) : Calls Tryf.prog 13 #[.int .u64 a, .int .u64 b] w fun e w' => e = .returned (.int .u64 (maxU a b)) ∧ w' = w := by
  by_cases h : b < a
  · have hm : Hid (maxU a b = a) := by unfold Hid maxU; rw [if_pos h]
    go_enter Tryf.func13, Tryf.ntmps13
    go_wp2
    go_ret
    exact ⟨ret_int hm.out.symm, rfl⟩
  · have hm : Hid (maxU a b = b) := by unfold Hid maxU; rw [if_neg h]
    go_enter Tryf.func13, Tryf.ntmps13
    go_wp2
    go_ret
    exact ⟨ret_int hm.out.symm, rfl⟩
set_option maxHeartbeats 400000 in
theorem newElection_any (a b : Int) (w : World) : Calls Tryf.prog 10 #[.slice none 0 0, .int .u64 0, .int .u64 0, .string ⟨#[]⟩, .slice none 0 0, .int .u64 a, .int .u64 b] w fun e w' => e = .returned (.pointer (some ⟨w.heap.size, 0, none⟩)) ∧ Below w.heap.size w w' ∧ w.heap.size < w'.heap.size ∧ w'.cell? ⟨w.heap.size, 8, none⟩ = some (.int .u64 a) ∧ w'.cell? ⟨w.heap.size, 10, none⟩ = some (.int .u64 b) := by
  go_enter Tryf.func10, Tryf.ntmps10
  go_wp2
  go_ret
  exact ⟨rfl, (Below.refl _ _).alloc (Nat.le_refl _) _, by simp, by rw [World.cell?_alloc_mark]; rfl, by rw [World.cell?_alloc_mark]; rfl⟩
set_option maxHeartbeats 400000 in
theorem heard_any (p : Nat) (a b : Int) (w : World) (ha : w.cell? ⟨p, 8, none⟩ = some (.int .u64 a)) (hb : w.cell? ⟨p, 10, none⟩ = some (.int .u64 b)) :
    Calls Tryf.prog 19 #[.pointer (some ⟨p, 0, none⟩)] w fun e w' => e = .returned (.int .u64 (maxU a b)) ∧ Below w.heap.size w w' := by
  by_cases h : b < a
  · have hm : Hid (maxU a b = a) := by unfold Hid maxU; rw [if_pos h]
    go_enter Tryf.func19, Tryf.ntmps19
    go_wp2
    go_region
    all_goals
      go_wp2
      go_ret
      exact ⟨ret_int hm.out.symm, (Below.refl _ _).drew⟩
  · have hm : Hid (maxU a b = b) := by unfold Hid maxU; rw [if_neg h]
    by_cases h2 : a = b
    · subst h2
      go_enter Tryf.func19, Tryf.ntmps19
      go_wp2
      go_region
      all_goals
        go_wp2
        go_ret
        exact ⟨ret_int hm.out.symm, (Below.refl _ _).drew⟩
    · have h3 : a < b := by omega
      clear h h2
      go_enter Tryf.func19, Tryf.ntmps19
      go_wp2
      go_region
      all_goals
        go_wp2
        go_ret
        exact ⟨ret_int hm.out.symm, (Below.refl _ _).drew⟩
def F2 : List UInt8 := [116, 101, 114, 109, 32, 37, 100, 32, 105, 115, 32, 97, 98, 111, 118, 101, 32, 37, 100, 44, 32, 116, 104, 101, 32, 104, 105, 103, 104, 101, 115, 116, 32, 116, 101, 114, 109, 32, 111, 102, 32, 97, 32, 103, 114, 111, 117, 112]
def F3 : List UInt8 := [116, 101, 114, 109, 32, 37, 100, 32, 105, 115, 32, 109, 111, 114, 101, 32, 116, 104, 97, 110, 32, 37, 100, 32, 97, 98, 111, 118, 101, 32, 116, 101, 114, 109, 32, 37, 100, 44, 32, 116, 104, 101, 32, 104, 105, 103, 104, 101, 115, 116, 32, 116, 104, 105, 115, 32, 115, 101, 114, 118, 101, 114, 32, 104, 97, 115, 32, 104, 101, 97, 114, 100, 32, 111, 102]
def R2 (t : Int) : List (List UInt8) := [F2, shape28, digits 8 (t % 18446744073709551616).toNat, shape28, digits 8 9007199254740991]
def R3 (t h : Int) : List (List UInt8) := [F3, shape28, digits 8 (t % 18446744073709551616).toNat, shape3, digits 8 1048576, shape28, digits 8 (h % 18446744073709551616).toNat]
set_option maxHeartbeats 400000 in
theorem checkTerm_no (F : Interp) (t : Int) (w : World) (hF : F.answers w.tape) (ht : 9007199254740991 < t) :
    Calls Tryf.prog 18 #[.int .u64 t] w fun e w' => e = .returned (.iface 62 (.pointer (some ⟨w.heap.size + 1, 0, none⟩))) ∧ Below w.heap.size w w' ∧ w'.cell? ⟨w.heap.size + 1, 0, none⟩ = some (.string (FmtStop.textOf (F "fmt.errorf" (R2 t) 0))) := by
  have hF' := answers_open hF
  go_enter Tryf.func18, Tryf.ntmps18
  go_wp2
  go_ret
  refine ⟨rfl, (((Below.refl _ _).alloc (Nat.le_refl _) _).alloc (by simp) _).drew, ?_⟩
  simp [R2, F2]
set_option maxHeartbeats 400000 in
theorem checkTerm_ok (t : Int) (w : World) (ht : t ≤ 9007199254740991) :
    Calls Tryf.prog 18 #[.int .u64 t] w fun e w' => e = .returned .nilIface ∧ w' = w := by
  go_enter Tryf.func18, Tryf.ntmps18
  go_wp2
  go_ret
  exact ⟨rfl, rfl⟩
set_option maxHeartbeats 400000 in
theorem errText_any (p : Nat) (s : ByteArray) (w : World) (hc : w.cell? ⟨p, 0, none⟩ = some (.string s)) : Calls Tryf.prog 47 #[.pointer (some ⟨p, 0, none⟩)] w fun e w' => e = .returned (.string s) ∧ w' = w := by
  go_enter Tryf.func47, Tryf.ntmps47
  go_wp2
  go_ret
  exact ⟨rfl, rfl⟩
theorem method_err (a : Addr) (w : World) : (method 201 62 (.pointer (some a)) "Error").run Tryf.prog w = .ok (47, .pointer (some a)) w := by kernel_rfl
set_option maxHeartbeats 400000 in
theorem out_far (F : Interp) (p : Nat) (t : Int) (w : World) (hF : F.answers w.tape) (ht : 9007199254740991 < t) :
    Calls Tryf.prog 15 #[.pointer (some ⟨p, 0, none⟩), .int .u64 t] w fun e w' => e = .returned (.string (FmtStop.textOf (F "fmt.errorf" (R2 t) 0))) ∧ Below w.heap.size w w' := by
  have HC := Lib.hid (checkTerm_no F t w hF ht)
  have hme := method_err
  go_enter Tryf.func15, Tryf.ntmps15
  go_wp2_with (first
    | (go_at_call 18; refine HC.out.mono ?_; rintro e w1 ⟨rfl, hb1, hc1⟩)
    | (go_at_call 47; refine (errText_any _ _ _ hc1).mono ?_; rintro e w2 ⟨rfl, hw2⟩; replace hw2 := hw2.symm; subst hw2))
  go_ret
  exact ⟨rfl, hb1⟩
def reach (a b : Int) : Int := if 9007199254740991 < maxU a b + 1048576 then 9007199254740991 else maxU a b + 1048576
theorem maxU_bd {a b : Int} (ha : 0 ≤ a) (hb : 0 ≤ b) (ha1 : a ≤ 9007199254740991) (hb1 : b ≤ 9007199254740991) : 0 ≤ maxU a b ∧ maxU a b ≤ 9007199254740991 := by
  unfold maxU; split <;> omega
set_option maxHeartbeats 400000 in
theorem reach_any (a b : Int) (ha : 0 ≤ a) (hb : 0 ≤ b) (ha1 : a ≤ 9007199254740991) (hb1 : b ≤ 9007199254740991) (w : World) :
    Calls Tryf.prog 12 #[.int .u64 a, .int .u64 b] w fun e w' => e = .returned (.int .u64 (reach a b)) ∧ w' = w := by
  obtain ⟨h0, h1⟩ := maxU_bd ha hb ha1 hb1
  by_cases h : 9007199254740991 < maxU a b + 1048576
  · have hm : Hid (reach a b = 9007199254740991) := by unfold Hid reach; rw [if_pos h]
    go_enter Tryf.func12, Tryf.ntmps12
    go_wp2_with (go_at_call 13; refine (maxU_any _ _ _).mono ?_; rintro e w' ⟨rfl, rfl⟩)
    go_ret
    exact ⟨ret_int hm.out.symm, rfl⟩
  · have hm : Hid (reach a b = maxU a b + 1048576) := by unfold Hid reach; rw [if_neg h]
    go_enter Tryf.func12, Tryf.ntmps12
    go_wp2_with (go_at_call 13; refine (maxU_any _ _ _).mono ?_; rintro e w' ⟨rfl, rfl⟩)
    go_ret
    exact ⟨ret_int hm.out.symm, rfl⟩
set_option maxHeartbeats 400000 in
theorem out_near (F : Interp) (p : Nat) (a b t : Int) (w : World) (hF : F.answers w.tape) (ha : w.cell? ⟨p, 8, none⟩ = some (.int .u64 a)) (hb : w.cell? ⟨p, 10, none⟩ = some (.int .u64 b))
    (h0 : 0 ≤ maxU a b) (h1 : maxU a b ≤ 9007199254740991) (ht : t ≤ 9007199254740991) (hfar : maxU a b + 1048576 < t) :
    Calls Tryf.prog 15 #[.pointer (some ⟨p, 0, none⟩), .int .u64 t] w fun e w' => e = .returned (.string (FmtStop.textOf (F "fmt.Sprintf" (R3 t (maxU a b)) 0))) ∧ Below w.heap.size w w' := by
  have HH := Lib.hid (heard_any p a b w ha hb)
  have hF' := answers_open hF
  have HF := Lib.hid hF
  clear hF'
  go_enter Tryf.func15, Tryf.ntmps15
  go_wp2_with (first
    | (go_at_call 18; refine (checkTerm_ok t _ ht).mono ?_; rintro e w1 ⟨rfl, hw1⟩; replace hw1 := hw1.symm; subst hw1)
    | (go_at_call 19; refine HH.out.mono ?_; rintro e w2 ⟨rfl, hb2⟩; have hF2 : F.answers w2.tape := (by rw [hb2.tape]; exact HF.out); have hF3 := answers_open hF2))
  go_ret
  exact ⟨rfl, (hb2.alloc hb2.size _).drew⟩
set_option maxHeartbeats 400000 in
theorem out_ok (p : Nat) (a b t : Int) (w : World) (ha : w.cell? ⟨p, 8, none⟩ = some (.int .u64 a)) (hb : w.cell? ⟨p, 10, none⟩ = some (.int .u64 b))
    (h0 : 0 ≤ maxU a b) (h1 : maxU a b ≤ 9007199254740991) (ht : t ≤ 9007199254740991) (hnear : t ≤ maxU a b + 1048576) :
    Calls Tryf.prog 15 #[.pointer (some ⟨p, 0, none⟩), .int .u64 t] w fun e w' => e = .returned (.string ⟨#[]⟩) ∧ Below w.heap.size w w' := by
  have HH := Lib.hid (heard_any p a b w ha hb)
  go_enter Tryf.func15, Tryf.ntmps15
  go_wp2_with (first
    | (go_at_call 18; refine (checkTerm_ok t _ ht).mono ?_; rintro e w1 ⟨rfl, hw1⟩; replace hw1 := hw1.symm; subst hw1)
    | (go_at_call 19; refine HH.out.mono ?_; rintro e w2 ⟨rfl, hb2⟩))
  go_ret
  exact ⟨rfl, hb2⟩
/-- what is asked of fmt's texts: the two texts of this road are not empty -/
structure Spoken (F : Interp) : Prop where
  far : ∀ t : Int, 0 ≤ t → t ≤ 18446744073709551615 → (FmtStop.textOf (F "fmt.errorf" (R2 t) 0)).toList.isEmpty = false
  near : ∀ t h : Int, 0 ≤ t → t ≤ 18446744073709551615 → 0 ≤ h → h ≤ 18446744073709551615 → (FmtStop.textOf (F "fmt.Sprintf" (R3 t h) 0)).toList.isEmpty = false
/-- an election with the two terms at block p -/
def Elec (w : World) (p : Nat) (a b : Int) : Prop := p < w.heap.size ∧ w.cell? ⟨p, 8, none⟩ = some (.int .u64 a) ∧ w.cell? ⟨p, 10, none⟩ = some (.int .u64 b)
theorem Elec.below {w w' : World} {p : Nat} {a b : Int} (h : Elec w p a b) (hb : Below w.heap.size w w') : Elec w' p a b :=
  ⟨Nat.lt_of_lt_of_le h.1 hb.size, by rw [hb.cell (p := ⟨p, 8, none⟩) h.1]; exact h.2.1, by rw [hb.cell (p := ⟨p, 10, none⟩) h.1]; exact h.2.2⟩
theorem reach_lt {a b t : Int} : reach a b < t ↔ (9007199254740991 < t ∨ maxU a b + 1048576 < t) := by
  unfold reach; split <;> omega
set_option maxHeartbeats 400000 in
theorem zz_near (p : Nat) (a b t : Int) (w : World) (hE : Elec w p a b) (ha : 0 ≤ a) (hb : 0 ≤ b) (ha1 : a ≤ 9007199254740991) (hb1 : b ≤ 9007199254740991) (ht : t ≤ reach a b) :
    Calls Tryf.prog 11 #[.pointer (some ⟨p, 0, none⟩), .int .u64 t] w fun e w' => e = .returned (.string ⟨#[]⟩) ∧ Below w.heap.size w w' := by
  obtain ⟨h0, h1⟩ := maxU_bd ha hb ha1 hb1
  have hr : ¬ reach a b < t := by omega
  rw [reach_lt] at hr
  have HO := Lib.hid (out_ok p a b t w hE.2.1 hE.2.2 h0 h1 (by omega) (by omega))
  go_enter Tryf.func11, Tryf.ntmps11
  go_wp2_with (go_at_call 15; refine HO.out.mono ?_; rintro e w1 ⟨rfl, hb1⟩)
  go_ret
  exact ⟨rfl, hb1⟩
set_option maxHeartbeats 400000 in
theorem zz_far (F : Interp) (hS : Spoken F) (p : Nat) (a b t : Int) (w : World) (hF : F.answers w.tape) (hE : Elec w p a b) (ha : 0 ≤ a) (hb : 0 ≤ b) (ha1 : a ≤ 9007199254740991) (hb1 : b ≤ 9007199254740991)
    (ht0 : 0 ≤ t) (ht1 : t ≤ 18446744073709551615) (ht : reach a b < t) :
    Calls Tryf.prog 11 #[.pointer (some ⟨p, 0, none⟩), .int .u64 t] w fun e w' => ∃ s : ByteArray, e = .returned (.string s) ∧ s.toList.isEmpty = false ∧ Below w.heap.size w w' := by
  obtain ⟨h0, h1⟩ := maxU_bd ha hb ha1 hb1
  have HO : Hid (Calls Tryf.prog 15 #[.pointer (some ⟨p, 0, none⟩), .int .u64 t] w fun e w' => ∃ s : ByteArray, e = .returned (.string s) ∧ s.toList.isEmpty = false ∧ Below w.heap.size w w') := by
    by_cases hm : 9007199254740991 < t
    · exact (out_far F p t w hF hm).mono fun e w' ⟨he, hb⟩ => ⟨_, he, hS.far t ht0 ht1, hb⟩
    · rw [reach_lt] at ht
      exact (out_near F p a b t w hF hE.2.1 hE.2.2 h0 h1 (by omega) (by omega)).mono fun e w' ⟨he, hb⟩ => ⟨_, he, hS.near t _ ht0 ht1 (by omega) (by omega), hb⟩
  clear ht hS
  go_enter Tryf.func11, Tryf.ntmps11
  go_wp2_with (go_at_call 15; refine HO.out.mono ?_; rintro e w1 ⟨s, rfl, hs, hb1⟩)
  go_ret
  exact ⟨s, rfl, hs, hb1⟩
end Go.Proofs.Qxb6613197aFmt
