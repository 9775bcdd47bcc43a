import Derived.Test.Qxb6603985aDoorText
import Derived.BigQuiet
namespace Go.Proofs.Qxb6603985aDoor
open Go.RowKit
set_option linter.unusedVariables false

def BoolPost (w : World) (p : Prop) (e : Ending) (w' : World) : Prop := ∃ b, e = .returned (.bool b) ∧ (b = true → p) ∧ Below w.heap.size w w'
theorem BoolPost.ff {w w' : World} {p : Prop} (h : Below w.heap.size w w') : BoolPost w p (.returned (.bool false)) w' := ⟨false, rfl, (fun h => by cases h), h⟩
theorem BoolPost.tt {w w' : World} {p : Prop} {b : Bool} (hp : p) (h : Below w.heap.size w w') : BoolPost w p (.returned (.bool b)) w' := ⟨b, rfl, fun _ => hp, h⟩

set_option maxHeartbeats 4000000 in
theorem zzBytes_any (w : World) (fs ts : ByteArray) (a0 a1 : Option Addr) (c0 c1 : Nat) (m0 m1 : List M) (h0 : MsAt w a0 m0) (h1 : MsAt w a1 m1) :
    Calls Tryd.prog 6 #[.string fs, .string ts, .slice a0 m0.length c0, .slice a1 m1.length c1] w (BoolPost w True) := by
  go_enter Tryd.func6, Tryd.ntmps6
  go_wp2
  all_goals try (go_ret; exact BoolPost.ff (Below.refl _ _))
  go_loopw [8, 9, 10] (fun r t i wr => ∃ k : Nat, k ≤ m0.length ∧ i = .int .i64 k ∧ wr = w ∧ ∃ T : Int, t = .int .i64 T ∧ 0 ≤ T ∧ T ≤ 2097152) (fun _ _ i _ => m0.length - (intOf i).toNat)
  case atStart => exact ⟨0, Nat.zero_le _, rfl, rfl, _, rfl, by omega, by omega⟩
  case round =>
    obtain ⟨k, hk, rfl, rfl, T, rfl, hT0, hT1⟩ := hrel
    by_cases hlt : k < m0.length
    · obtain ⟨b, off, rfl, hcc⟩ := h0 (by omega)
      obtain ⟨d0, d1, d2⟩ := hcc k hlt
      clear hcc d0
      obtain ⟨m, hm⟩ : ∃ m, m0.getD k mZero = m := ⟨_, rfl⟩
      rw [hm] at d1 d2
      clear hm
      go_wp2
      all_goals try (go_ret; exact BoolPost.ff (Below.refl _ _))
      go_roundw
      case rel => exact ⟨k + 1, by omega, by go_num, trivial, _, rfl, by omega, by omega⟩
      case measure => simp [intOf]; omega
    · go_wp2
      all_goals try (go_ret; exact BoolPost.ff (Below.refl _ _))
      go_loopw [8, 9, 11] (fun r t i wr2 => ∃ k : Nat, k ≤ m1.length ∧ i = .int .i64 k ∧ wr2 = wr ∧ ∃ T : Int, t = .int .i64 T ∧ 0 ≤ T ∧ T ≤ 2097152) (fun _ _ i _ => m1.length - (intOf i).toNat)
      case atStart => exact ⟨0, Nat.zero_le _, rfl, rfl, _, rfl, by omega, by omega⟩
      case round =>
        obtain ⟨k2, hk2, rfl, rfl, T2, rfl, hU0, hU1⟩ := hrel
        by_cases hlt2 : k2 < m1.length
        · obtain ⟨b, off, rfl, hcc⟩ := h1 (by omega)
          obtain ⟨d0, d1, d2⟩ := hcc k2 hlt2
          clear hcc d0
          obtain ⟨m, hm⟩ : ∃ m, m1.getD k2 mZero = m := ⟨_, rfl⟩
          rw [hm] at d1 d2
          clear hm
          go_wp2
          all_goals try (go_ret; exact BoolPost.ff (Below.refl _ _))
          go_roundw
          case rel => exact ⟨k2 + 1, by omega, by go_num, trivial, _, rfl, by omega, by omega⟩
          case measure => simp [intOf]; omega
        · go_wp2
          all_goals (go_ret; first | exact BoolPost.ff (Below.refl _ _) | exact BoolPost.tt trivial (Below.refl _ _))

/-- What zzB1MsBytes answers: at most 1<<20 only where every text is so short. -/
def SumPost (w : World) (ms : List M) (e : Ending) (w' : World) : Prop :=
  ∃ v : Int, e = .returned (.int .i64 v) ∧ 0 ≤ v ∧ v ≤ 2621440 ∧ (v ≤ 1048576 → ∀ i, i < ms.length → (ms.getD i mZero).path.size ≤ 1048576 ∧ (ms.getD i mZero).reason.size ≤ 1048576) ∧ Below w.heap.size w w'
theorem SumPost.big {w w' : World} {ms : List M} (h : Below w.heap.size w w') : SumPost w ms (.returned (.int .i64 2097152)) w' := ⟨_, rfl, by omega, by omega, fun h => by omega, h⟩

set_option maxHeartbeats 4000000 in
theorem msBytes_any (w : World) (a : Option Addr) (c : Nat) (ms : List M) (h0 : MsAt w a ms) (hl : ms.length ≤ 65536) :
    Calls Tryd.prog 7 #[.slice a ms.length c] w (SumPost w ms) := by
  go_enter Tryd.func7, Tryd.ntmps7
  go_wp2
  all_goals try (go_ret; exact SumPost.big (Below.refl _ _))
  go_loopw [2, 3, 4] (fun r t i wr => ∃ k : Nat, k ≤ ms.length ∧ i = .int .i64 k ∧ Below w.heap.size w wr ∧ ∃ T : Int, t = .int .i64 T ∧ 0 ≤ T ∧ T ≤ 2621440 ∧ ∀ i, i < k → (ms.getD i mZero).path.size ≤ 1048576 ∧ (ms.getD i mZero).reason.size ≤ 1048576) (fun _ _ i _ => ms.length - (intOf i).toNat)
  case atStart => exact ⟨0, Nat.zero_le _, rfl, Below.refl _ _, _, rfl, by omega, by omega, fun i hi => by omega⟩
  case round =>
    obtain ⟨k, hk, rfl, hb, T, rfl, hT0, hT1, hall⟩ := hrel
    have HA := (show Hid _ from hall); clear hall
    by_cases hlt : k < ms.length
    · obtain ⟨b, off, rfl, hcc⟩ := h0 (by omega)
      obtain ⟨d0, d1, d2⟩ := hcc k hlt
      clear hcc d0
      obtain ⟨m, hm⟩ : ∃ m, ms.getD k mZero = m := ⟨_, rfl⟩
      rw [hm] at d1 d2
      have HM := (show Hid _ from hm); clear hm
      replace d1 := cell_below hb d1
      replace d2 := cell_below hb d2
      by_cases hp : m.path.size ≤ 1048576
      · by_cases hr : m.reason.size ≤ 1048576
        · go_upto_region 9 with fail
          go_quiet (fail)
          have hb2 := hb.trans ((below_drewN wr nq).mono hb.size)
          by_cases hT : T + ((m.path.size : Int) + m.reason.size) ≤ 1048576
          · go_wp2_with fail
            go_roundw
            case rel =>
              refine ⟨k + 1, by omega, by go_num, hb2, _, rfl, by omega, by omega, fun i hi => ?_⟩
              rcases Nat.lt_succ_iff_lt_or_eq.1 hi with h | h
              · exact HA.out i h
              · subst h
                rw [HM.out]
                exact ⟨hp, hr⟩
            case measure => simp [intOf]; omega
          · go_wp2_with fail
            go_ret; exact SumPost.big hb2
        · go_wp2_with fail
          go_ret; exact SumPost.big hb
      · go_wp2_with fail
        go_ret; exact SumPost.big hb
    · go_wp2_with fail
      go_ret
      exact ⟨T, rfl, hT0, hT1, fun _ i hi => HA.out i (by omega), hb⟩

end Go.Proofs.Qxb6603985aDoor
