import Derived.Test.Qxb6602416aBase
namespace Go.Proofs.Qxb6602416a
open Go.RowKit

set_option maxHeartbeats 4000000 in
theorem zzBytes6_any (w : World) (a0 a1 a2 a3 a4 a5 a6 a7 a10 : Option Addr) (n0 n3 n4 n5 n6 n7 n10 c0 c1 c2 c3 c4 c5 c6 c7 c10 : Nat) (b8 b9 : Bool) (s1 s2 : List ByteArray)
    (h1 : CellsAt .string ByteArray.empty w a1 s1) (h2 : CellsAt .string ByteArray.empty w a2 s2) :
    Calls Try.prog 6 #[.slice a0 n0 c0, .slice a1 s1.length c1, .slice a2 s2.length c2, .slice a3 n3 c3, .slice a4 n4 c4, .slice a5 n5 c5, .slice a6 n6 c6, .slice a7 n7 c7, .bool b8, .bool b9, .slice a10 n10 c10] w (BoolPost w True) := by
  go_enter Try.func6, Try.ntmps6
  go_wp2
  all_goals try (go_ret; exact BoolPost.ff (Below.refl _ _))
  go_loopw [22, 23, 24] (fun r t i wr => ∃ k : Nat, k ≤ s1.length ∧ i = .int .i64 k ∧ wr = w ∧ ∃ T : Int, t = .int .i64 T ∧ 0 ≤ T ∧ T ≤ 2097152) (fun _ _ i _ => s1.length - (intOf i).toNat)
  case atStart => exact ⟨0, Nat.zero_le _, rfl, rfl, _, rfl, by omega, by omega⟩
  case round =>
    obtain ⟨k, hk, rfl, rfl, T, rfl, hT0, hT1⟩ := hrel
    by_cases hlt : k < s1.length
    · obtain ⟨b, off, rfl, hcc⟩ := h1 (by omega)
      have hc1 := hcc k hlt
      go_wp2
      · go_ret; exact BoolPost.ff (Below.refl _ _)
      · go_ret; exact BoolPost.ff (Below.refl _ _)
      · go_roundw
        case rel => exact ⟨k + 1, by omega, by go_num, trivial, _, rfl, by omega, by omega⟩
        case measure => simp [intOf]; omega
    · go_wp2
      all_goals try (go_ret; exact BoolPost.ff (Below.refl _ _))
      go_loopw [22, 23, 25] (fun r t i wr2 => ∃ k : Nat, k ≤ s2.length ∧ i = .int .i64 k ∧ wr2 = wr ∧ ∃ T : Int, t = .int .i64 T ∧ 0 ≤ T ∧ T ≤ 2097152) (fun _ _ i _ => s2.length - (intOf i).toNat)
      case atStart => exact ⟨0, Nat.zero_le _, rfl, rfl, _, rfl, by omega, by omega⟩
      case round =>
        obtain ⟨k2, hk2, rfl, rfl, T2, rfl, hU0, hU1⟩ := hrel
        by_cases hlt2 : k2 < s2.length
        · obtain ⟨b, off, rfl, hcc⟩ := h2 (by omega)
          have hc1 := hcc k2 hlt2
          go_wp2
          · go_ret; exact BoolPost.ff (Below.refl _ _)
          · go_ret; exact BoolPost.ff (Below.refl _ _)
          · go_roundw
            case rel => exact ⟨k2 + 1, by omega, by go_num, trivial, _, rfl, by omega, by omega⟩
            case measure => simp [intOf]; omega
        · go_wp2
          all_goals (go_ret; first | exact BoolPost.ff (Below.refl _ _) | exact BoolPost.tt trivial (Below.refl _ _))

end Go.Proofs.Qxb6602416a
