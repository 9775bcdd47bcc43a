import Derived.Test.Qxb6602416aModel1
namespace Go.Proofs.Qxb6602416a
open Go.RowKit
set_option linter.unusedVariables false

set_option maxHeartbeats 1000000 in
/-- Two slices of one list: true, and it only reads. -/
theorem equalInts_same (w : World) (a0 a1 : Option Addr) (c0 c1 : Nat) (xs : List Int) (h0 : CellsAt (Value.int .i64) 0 w a0 xs) (h1 : CellsAt (Value.int .i64) 0 w a1 xs) (hl : xs.length ≤ 100000000) :
    Calls Try.prog 15 #[.slice a0 xs.length c0, .slice a1 xs.length c1] w fun e w' => e = .returned (.bool true) ∧ ∃ m, w' = w.drewN m := by
  go_enter Try.func15, Try.ntmps15
  go_wp2
  go_loopw [4, 5] (fun _ t wr => ∃ k : Nat, k ≤ xs.length ∧ t = .int .i64 k ∧ ∃ m, wr = w.drewN m) (fun _ t _ => xs.length - (intOf t).toNat)
  case atStart => exact ⟨0, Nat.zero_le _, rfl, 0, rfl⟩
  case round =>
    obtain ⟨k, hk, rfl, m, rfl⟩ := hrel
    by_cases hlt : k < xs.length
    · obtain ⟨b0, o0, rfl, r0⟩ := h0 (by omega)
      obtain ⟨b1, o1, rfl, r1⟩ := h1 (by omega)
      replace r0 := r0 k hlt
      replace r1 := r1 k hlt
      generalize xs.getD k 0 = x at *
      have he : (x != x) = false := by simp
      clear h0 h1
      go_wp2_with fail
      go_quiet (fail)
      go_wp2_with fail
      go_roundw
      case rel => exact ⟨k + 1, by omega, by go_num, m + nq, by simp⟩
      case measure => simp [intOf]; omega
    · go_wp2_with fail
      go_ret
      exact ⟨rfl, m, rfl⟩

end Go.Proofs.Qxb6602416a
