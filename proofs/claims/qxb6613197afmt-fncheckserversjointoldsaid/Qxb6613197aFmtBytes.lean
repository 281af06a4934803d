import Derived.Test.Qxb6613197aFmtServers
namespace Go.Proofs.Qxb6613197aFmt
open Go.RowKit Go.Extern.Stop Go.Stop Go.Extern Go.WideMaps Go.Maps
/-- every string of the list is at most 1 << 20 bytes long -/
def small (ss : List ByteArray) : Prop := ss.length ≤ 1048576 ∧ ∀ s ∈ ss, s.size ≤ 1048576
/-- what the bound on total length says: a bool; if true, all is small -/
def zzR (small : Prop) (e : Ending) : Prop := ∃ r, e = .returned (.bool r) ∧ (r = true → small)
theorem zzR_no {p : Prop} : zzR p (.returned (.bool false)) := ⟨false, rfl, fun h => absurd h (by decide)⟩
theorem zzR_yes {p : Prop} (h : p) : zzR p (.returned (.bool true)) := ⟨true, rfl, fun _ => h⟩
set_option maxHeartbeats 1000000 in
theorem zz7_any (b off cap : Nat) (ss : List ByteArray) (w : World) (hn : ss.length ≤ maxLen)
    (hc : ∀ j (h : j < ss.length), w.cell? ⟨b, off + j, none⟩ = some (.string (ss[j]'h))) (hsz : ∀ s ∈ ss, s.size ≤ maxLen) :
    Calls Tryf.prog 7 #[.slice (some ⟨b, off, none⟩) ss.length cap] w fun e w' => zzR (small ss) e ∧ w' = w := by
  have HC := Lib.hid hc
  have HZ := Lib.hid hsz
  obtain ⟨len, hlen⟩ : ∃ len, len = ss.length := ⟨_, rfl⟩
  rw [← hlen] at hn ⊢
  have HL := Lib.hid hlen
  clear hc hsz hlen
  unfold maxLen at hn
  by_cases hbig : len ≤ 1048576
  · go_enter Tryf.func7, Tryf.ntmps7
    go_wp2
    go_loop [3, 4] (fun vn vi => ∃ (k : Nat) (z : Int), vn = .int .i64 z ∧ vi = .int .i64 k ∧ k ≤ len ∧ 0 ≤ z ∧ z ≤ 1048576 ∧ Hid (∀ j (h : j < ss.length), j < k → (ss[j]'h).size ≤ 1048576)) (fun _ vi => len - (intOf vi).toNat)
    case atStart => exact ⟨0, _, rfl, rfl, by omega, by omega, by omega, fun j _ h => absurd h (Nat.not_lt_zero j)⟩
    case round =>
      obtain ⟨k, z, rfl, rfl, hk, hz0, hz1, hm⟩ := hrel
      by_cases hlt : k < len
      · have hlt' : k < ss.length := by have := HL.out; omega
        have hcx := HC.out k hlt'
        have hsm := HZ.out _ (List.getElem_mem hlt')
        generalize hs : ss[k]'hlt' = s at hcx hsm
        have HS := Lib.hid hs
        clear hs
        unfold maxLen at hsm
        by_cases h1 : s.size ≤ 1048576
        · by_cases h2 : z + s.size ≤ 1048576
          · have HN : Hid (∀ j (h : j < ss.length), j < k + 1 → (ss[j]'h).size ≤ 1048576) := fun j h hj => by
              by_cases e : j = k
              · subst e; rw [HS.out]; exact h1
              · exact hm.out j h (by omega)
            clear hm
            go_wp2
            go_round
            case rel => exact ⟨k + 1, z + s.size, rfl, by go_num, by omega, by omega, by omega, HN⟩
            case measure => simp [intOf]; omega
          · clear hm
            go_wp2
            go_ret
            exact ⟨zzR_no, rfl⟩
        · clear hm
          go_wp2
          go_ret
          exact ⟨zzR_no, rfl⟩
      · have HN : Hid (small ss) := ⟨by have := HL.out; omega, fun s hs => by
          obtain ⟨j, hj, rfl⟩ := List.getElem_of_mem hs
          exact hm.out j hj (by have := HL.out; omega)⟩
        clear hm
        go_wp2
        go_ret
        exact ⟨zzR_yes HN.out, rfl⟩
  · go_enter Tryf.func7, Tryf.ntmps7
    go_wp2
    go_ret
    exact ⟨zzR_no, rfl⟩
set_option maxHeartbeats 1000000 in
theorem zz7_nil (w : World) : Calls Tryf.prog 7 #[.slice none 0 0] w fun e w' => e = .returned (.bool true) ∧ w' = w := by
  go_enter Tryf.func7, Tryf.ntmps7
  go_wp2
  refine wp_loop_rounds 1 ?_
  rw [rounds_succ]
  go_wp2
  go_ret
  exact ⟨rfl, rfl⟩
set_option maxHeartbeats 1000000 in
theorem check_nil (w : World) : Calls Tryf.prog 8 #[.slice none 0 0, .nilFunc] w fun e w' => e = .returned .nilIface ∧ Below w.heap.size w w' := by
  have hmm := run_makeHint
  go_enter Tryf.func8, Tryf.ntmps8
  go_wp2
  refine wp_loop_rounds 1 ?_
  rw [rounds_succ]
  go_wp2
  go_ret
  exact ⟨rfl, (Below.refl _ _).alloc (Nat.le_refl _) _⟩
end Go.Proofs.Qxb6613197aFmt
