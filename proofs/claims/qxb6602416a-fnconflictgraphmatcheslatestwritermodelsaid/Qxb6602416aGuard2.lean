import Derived.Test.Qxb6602416aBase
namespace Go.Proofs.Qxb6602416a
open Go.RowKit

set_option maxHeartbeats 1000000 in
theorem sizeFits_any (w : World) (a0 a1 a2 a3 a4 a5 a6 a7 a8 : Option Addr) (n0 n3 n4 n5 n6 n7 n8 c0 c1 c2 c3 c4 c5 c6 c7 c8 : Nat) (s1 s2 : List ByteArray)
    (h1 : CellsAt .string ByteArray.empty w a1 s1) (h2 : CellsAt .string ByteArray.empty w a2 s2) (p : Prop)
    (hp : n0 ≤ 4096 ∧ s1.length ≤ 4096 ∧ s2.length ≤ 4096 ∧ n3 ≤ 4096 ∧ n4 ≤ 4096 ∧ n5 ≤ 4096 ∧ n6 ≤ 4096 ∧ n7 ≤ 4096 ∧ n8 ≤ 65536 → p) :
    Calls Try.prog 7 #[.slice a0 n0 c0, .slice a1 s1.length c1, .slice a2 s2.length c2, .slice a3 n3 c3, .slice a4 n4 c4, .slice a5 n5 c5, .slice a6 n6 c6, .slice a7 n7 c7, .slice a8 n8 c8] w (BoolPost w p) := by
  have HP := (show Hid _ from hp)
  clear hp
  by_cases hs : n0 ≤ 4096 ∧ s1.length ≤ 4096 ∧ s2.length ≤ 4096 ∧ n3 ≤ 4096 ∧ n4 ≤ 4096 ∧ n5 ≤ 4096
  · obtain ⟨g0, g1, g2, g3, g4, g5⟩ := hs
    by_cases hs2 : n6 ≤ 4096 ∧ n7 ≤ 4096 ∧ n8 ≤ 65536
    · obtain ⟨g6, g7, g8⟩ := hs2
      have hpp : Hid p := HP.out ⟨g0, g1, g2, g3, g4, g5, g6, g7, g8⟩
      clear HP
      go_enter Try.func7, Try.ntmps7
      go_wp2
      go_loopw [18, 19, 20] (fun r t i wr => ∃ k : Nat, k ≤ s1.length ∧ i = .int .i64 k ∧ wr = w ∧ ∃ T : Int, t = .int .i64 T ∧ 0 ≤ T ∧ T ≤ 2000000 + 2097152) (fun _ _ i _ => s1.length - (intOf i).toNat)
      case atStart => exact ⟨0, Nat.zero_le _, rfl, rfl, _, rfl, by omega, by omega⟩
      case round =>
        obtain ⟨k, hk, rfl, rfl, T, rfl, hT0, hT1⟩ := hrel
        by_cases hlt : k < s1.length
        · obtain ⟨b, off, rfl, hcc⟩ := h1 (by omega)
          have hc1 := hcc k hlt
          go_wp2
          · go_ret; exact BoolPost.ff (Below.refl _ _)
          · go_ret; exact BoolPost.ff (Below.refl _ _)
          · go_roundw
            case rel => exact ⟨k + 1, by omega, by go_num, trivial, _, rfl, by omega, by omega⟩
            case measure => simp [intOf]; omega
        · go_wp2
          go_loopw [18, 19, 21] (fun r t i wr2 => ∃ k : Nat, k ≤ s2.length ∧ i = .int .i64 k ∧ wr2 = wr ∧ ∃ T : Int, t = .int .i64 T ∧ 0 ≤ T ∧ T ≤ 2000000 + 2097152) (fun _ _ i _ => s2.length - (intOf i).toNat)
          case atStart => exact ⟨0, Nat.zero_le _, rfl, rfl, _, rfl, by omega, by omega⟩
          case round =>
            obtain ⟨k2, hk2, rfl, rfl, T2, rfl, hU0, hU1⟩ := hrel
            by_cases hlt2 : k2 < s2.length
            · obtain ⟨b, off, rfl, hcc⟩ := h2 (by omega)
              have hc1 := hcc k2 hlt2
              go_wp2
              · go_ret; exact BoolPost.ff (Below.refl _ _)
              · go_ret; exact BoolPost.ff (Below.refl _ _)
              · go_roundw
                case rel => exact ⟨k2 + 1, by omega, by go_num, trivial, _, rfl, by omega, by omega⟩
                case measure => simp [intOf]; omega
            · go_wp2
              go_ret
              exact BoolPost.tt hpp.out (Below.refl _ _)
    · clear HP
      go_enter Try.func7, Try.ntmps7
      go_wp2
      all_goals (go_ret; exact BoolPost.ff (Below.refl _ _))
  · clear HP
    go_enter Try.func7, Try.ntmps7
    go_wp2
    all_goals (go_ret; exact BoolPost.ff (Below.refl _ _))

end Go.Proofs.Qxb6602416a
