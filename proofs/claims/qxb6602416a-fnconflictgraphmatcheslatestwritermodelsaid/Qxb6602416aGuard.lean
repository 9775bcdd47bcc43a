import Derived.Test.Qxb6602416aBase
namespace Go.Proofs.Qxb6602416a
open Go.RowKit

set_option maxHeartbeats 1000000 in
theorem sameLengths_any (w : World) (a0 a1 a2 a3 a4 a5 a6 a7 : Option Addr) (n0 n1 n2 n3 n4 n5 n6 n7 c0 c1 c2 c3 c4 c5 c6 c7 : Nat) :
    Calls Try.prog 8 #[.slice a0 n0 c0, .slice a1 n1 c1, .slice a2 n2 c2, .slice a3 n3 c3, .slice a4 n4 c4, .slice a5 n5 c5, .slice a6 n6 c6, .slice a7 n7 c7] w
      fun e w' => ∃ b, e = .returned (.bool b) ∧ (b = true → n1 = n0 ∧ n2 = n0 ∧ n3 = n0 ∧ n4 = n0 ∧ n5 = n0 ∧ n7 = n6) ∧ w' = w := by
  go_enter Try.func8, Try.ntmps8
  go_wp2
  all_goals (go_ret; exact ⟨_, rfl, by first | (intro h; cases h; done) | (intro h; simp at h; omega), rfl⟩)

set_option maxHeartbeats 1000000 in
theorem isSerial_any (w : World) (a : Option Addr) (cap : Nat) (zs : List Int) (hc : CellsAt (.int .i64) 0 w a zs) (hl : zs.length ≤ 65536) :
    Calls Try.prog 21 #[.slice a zs.length cap] w fun e w' => ∃ b, e = .returned (.bool b) ∧
      (b = true → ∀ j, 1 ≤ j → j < zs.length → zs.getD j 0 ≠ zs.getD (j - 1) 0 → ∀ i, i < j - 1 → zs.getD i 0 ≠ zs.getD j 0) ∧ Below w.heap.size w w' := by
  go_enter Try.func21, Try.ntmps21
  go_wp2
  go_loopw [3, 4] (fun t _ wr => ∃ j : Nat, 1 ≤ j ∧ (j ≤ zs.length ∨ j = 1) ∧ t = .int .i64 j ∧ Below w.heap.size w wr ∧ (∀ j', 1 ≤ j' → j' < j → j' < zs.length → zs.getD j' 0 ≠ zs.getD (j' - 1) 0 → ∀ i, i < j' - 1 → zs.getD i 0 ≠ zs.getD j' 0)) (fun t _ _ => zs.length + 1 - (intOf t).toNat)
  case atStart => exact ⟨1, Nat.le_refl _, .inr rfl, rfl, Below.refl _ _, fun j' h1 h2 => by omega⟩
  case round =>
    obtain ⟨j, hj1, hj2, rfl, hb, hinv⟩ := hrel
    have HI := (show Hid _ from hinv); clear hinv
    by_cases hlt : j < zs.length
    · obtain ⟨b, off, rfl, hcc⟩ := hc (by omega)
      have hc1 : wr.cell? ⟨b, off + j, none⟩ = some (.int .i64 (zs.getD j 0)) := hcell_below hb (hcc j hlt)
      have hc2 : wr.cell? ⟨b, off + (j - 1), none⟩ = some (.int .i64 (zs.getD (j - 1) 0)) := hcell_below hb (hcc (j - 1) (by omega))
      go_wp2
      go_quiet (fail)
      go_wp2
      · have hb2 : Below w.heap.size w (wr.drewN nq) := below_drewN hb nq
        go_loopw [4] (fun t wr2 => ∃ i : Nat, i ≤ j - 1 ∧ t = .int .i64 i ∧ Below w.heap.size w wr2 ∧ (∀ i', i' < i → zs.getD i' 0 ≠ zs.getD j 0)) (fun t _ => j - (intOf t).toNat)
        case atStart => exact ⟨0, Nat.zero_le _, rfl, hb2, fun i' h => by omega⟩
        case round =>
          obtain ⟨i, hi1, rfl, hb3, hin⟩ := hrel
          have HN := (show Hid _ from hin); clear hin
          by_cases hlt2 : i < j - 1
          · have hil : i < zs.length := by omega
            have hc3 := hcell_below hb3 (hcc j hlt)
            have hc4 := hcell_below hb3 (hcc i (by omega))
            go_wp2
            go_quiet (fail)
            go_wp2
            · go_ret
              exact ⟨false, rfl, (fun h => by cases h), below_drewN hb3 _⟩
            · go_roundw
              case rel =>
                have hne : (zs[i] == zs[j]) = false := by assumption
                exact ⟨i + 1, by omega, by go_num, below_drewN hb3 _, fun i' h' => by
                  rcases Nat.lt_succ_iff_lt_or_eq.1 h' with h | rfl
                  · exact HN.out i' h
                  · simpa [hlt, hil] using hne⟩
              case measure => simp [intOf]; omega
          · go_wp2
            go_roundw
            case rel =>
              exact ⟨j + 1, by omega, by omega, by go_num, hb3, fun j' h1 h2 h3 hne i' hi' => by
                rcases Nat.lt_succ_iff_lt_or_eq.1 h2 with h | rfl
                · exact HI.out j' h1 h h3 hne i' hi'
                · exact HN.out i' (by omega)⟩
            case measure => simp [intOf]; omega
      · go_roundw
        case rel =>
          have heq : (zs[j] != zs[j - 1]?.getD 0) = false := by assumption
          exact ⟨j + 1, by omega, by omega, by go_num, below_drewN hb nq, fun j' h1 h2 h3 hne i' hi' => by
                rcases Nat.lt_succ_iff_lt_or_eq.1 h2 with h | rfl
                · exact HI.out j' h1 h h3 hne i' hi'
                · exact absurd (by simpa [hlt] using heq) hne⟩
        case measure => simp [intOf]; omega
    · go_wp2
      go_ret
      exact ⟨_, rfl, fun _ j' h1 h2 => HI.out j' h1 (by omega) h2, hb⟩

end Go.Proofs.Qxb6602416a
