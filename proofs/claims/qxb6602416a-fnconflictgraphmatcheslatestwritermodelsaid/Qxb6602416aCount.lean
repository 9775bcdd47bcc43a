import Derived.Test.Qxb6602416aBase
import Derived.Test.Qxb6602416aPlain2
namespace Go.Proofs.Qxb6602416a
open Go.RowKit
set_option linter.unusedVariables false

/-- 'lastIndex': the last place, or -1. -/
def lastI (zs : List Int) (x : Int) : Int := match Plain.lastIdx zs x with
  | none => -1
  | some i => (i : Int)

theorem lastIdx_eq {zs : List Int} {x : Int} {i : Nat} (hi : i < zs.length) (h : zs[i] = x) (hn : ∀ j, i < j → (hj : j < zs.length) → zs[j] ≠ x) : Plain.lastIdx zs x = some i := by
  cases hl : Plain.lastIdx zs x with
  | none => exact absurd (by rw [← h]; exact List.getElem_mem hi) ((Plain.lastIdx_none zs x).1 hl)
  | some m =>
    obtain ⟨hm, hx⟩ := Plain.lastIdx_lt zs x m hl
    have hx' : zs[m] = x := by rw [List.getElem?_eq_getElem hm] at hx; exact Option.some.inj hx
    have key : ∀ (r : List Int) (x : Int) (m j : Nat), Plain.lastIdx r x = some m → (hj : j < r.length) → r[j] = x → j ≤ m := by
      intro r x
      induction r with
      | nil => intro m j h; simp [Plain.lastIdx] at h
      | cons y r ih =>
        intro m j h hj e
        simp only [Plain.lastIdx] at h
        cases hr : Plain.lastIdx r x with
        | some k =>
          rw [hr] at h
          simp at h
          cases j with
          | zero => omega
          | succ j => have := ih k j hr (by simpa using hj) (by simpa using e); omega
        | none =>
          cases j with
          | zero => omega
          | succ j =>
            have hmem : x ∈ r := by
              have e' : r[j]'(by simpa using hj) = x := by simpa using e
              rw [← e']; exact List.getElem_mem _
            exact absurd hmem ((Plain.lastIdx_none r x).1 hr)
    have h1 := key zs x m i hl hi h
    rcases Nat.lt_or_ge i m with hlt | hge
    · exact absurd hx' (hn m hlt hm)
    · have : i = m := by omega
      rw [this]

set_option maxHeartbeats 400000 in
theorem lastIndex_any (w : World) (a : Option Addr) (n cap : Nat) (zs : List Int) (x : Int) (hn : zs.length = n) (hc : CellsAt (.int .i64) 0 w a zs) (hl : n ≤ 65536) :
    Calls Try.prog 17 #[.slice a n cap, .int .i64 x] w fun e w' => e = .returned (.int .i64 (lastI zs x)) ∧ w' = w := by
  subst hn
  go_enter Try.func17, Try.ntmps17
  go_wp2
  go_loop [4, 5] (fun _ t => ∃ k : Nat, k ≤ zs.length ∧ t = .int .i64 ((k : Int) - 1) ∧ ∀ j, k ≤ j → (hj : j < zs.length) → zs[j] ≠ x) (fun _ t => (intOf t + 1).toNat)
  case atStart => exact ⟨zs.length, Nat.le_refl _, rfl, fun j h1 h2 => by omega⟩
  case round =>
    obtain ⟨k, hk, rfl, hno⟩ := hrel
    have HN := (show Hid _ from hno); clear hno
    by_cases h0 : 0 < k
    · obtain ⟨m, rfl⟩ : ∃ m, k = m + 1 := ⟨k - 1, by omega⟩
      have em : (((m + 1 : Nat) : Int) - 1) = (m : Int) := by omega
      rw [em]
      obtain ⟨b, off, rfl, hcc⟩ := hc (by omega)
      have hm : m < zs.length := by omega
      have hc1 := hcc m hm
      clear em
      go_wp2
      · go_ret
        have he : (zs[m] == x) = true := by assumption
        have : lastI zs x = (m : Int) := by
          unfold lastI
          rw [lastIdx_eq hm (by simpa using he) (fun j h1 h2 => HN.out j (by omega) h2)]
        rw [this]
        exact ⟨rfl, rfl⟩
      · go_round
        case rel =>
          have he : (zs[m] == x) = false := by assumption
          exact ⟨m, by omega, rfl, fun j h1 h2 => by
            rcases Nat.lt_or_ge m j with h | h
            · exact HN.out j (by omega) h2
            · have : j = m := by omega
              subst this
              simpa using he⟩
        case measure => simp [intOf]
    · have hk0 : k = 0 := by omega
      subst hk0
      go_wp2
      go_ret
      have : lastI zs x = -1 := by
        unfold lastI
        rw [(Plain.lastIdx_none zs x).2 (fun hm => by
          obtain ⟨j, hj, e⟩ := List.getElem_of_mem hm
          exact HN.out j (Nat.zero_le _) hj e)]
      rw [this]
      exact ⟨rfl, rfl⟩

set_option maxHeartbeats 400000 in
theorem countOf_any (w : World) (a : Option Addr) (n cap : Nat) (zs : List Int) (x : Int) (hn : zs.length = n) (hc : CellsAt (.int .i64) 0 w a zs) (hl : n ≤ 100000000) :
    Calls Try.prog 25 #[.slice a n cap, .int .i64 x] w fun e w' => e = .returned (.int .i64 ((zs.count x : Nat) : Int)) ∧ w' = w := by
  subst hn
  go_enter Try.func25, Try.ntmps25
  go_wp2
  go_loop [5, 6] (fun c t => ∃ k : Nat, k ≤ zs.length ∧ t = .int .i64 k ∧ c = .int .i64 (((zs.take k).count x : Nat) : Int)) (fun _ t => zs.length - (intOf t).toNat)
  case atStart => exact ⟨0, Nat.zero_le _, rfl, rfl⟩
  case round =>
    obtain ⟨k, hk, rfl, rfl⟩ := hrel
    have hcl : (zs.take k).count x ≤ (zs.take k).length := List.count_le_length
    have hcl2 : (zs.take k).length ≤ k := List.length_take_le _ _
    by_cases hlt : k < zs.length
    · obtain ⟨b, off, rfl, hcc⟩ := hc (by omega)
      have hc1 := hcc k hlt
      have hs : Hid ((zs.take (k + 1)).count x = (zs.take k).count x + if zs[k] = x then 1 else 0) := by
        show _ = _
        rw [List.take_succ_eq_append_getElem hlt, List.count_append]
        by_cases e : zs[k] = x <;> simp [e]
      generalize (zs.take k).count x = m at *
      go_wp2
      · go_round
        case rel =>
          have he : (zs[k] == x) = true := by assumption
          exact ⟨k + 1, by omega, by go_num, by rw [hs.out, if_pos (by simpa using he)]; go_num⟩
        case measure => simp [intOf]; omega
      · go_round
        case rel =>
          have he : (zs[k] == x) = false := by assumption
          exact ⟨k + 1, by omega, by go_num, by rw [hs.out, if_neg (by simpa using he)]; go_num⟩
        case measure => simp [intOf]; omega
    · have e : zs.take k = zs := List.take_of_length_le (by omega)
      rw [e]
      go_wp2
      go_ret
      exact ⟨rfl, rfl⟩

theorem isAccess_any (w : World) (k : Int) : Calls Try.prog 24 #[.int .u8 k] w fun e w' => e = .returned (.bool (decide (k = 2 ∨ k = 3))) ∧ w' = w := by
  by_cases h2 : k = 2
  · subst h2
    go_enter Try.func24, Try.ntmps24
    go_wp2
    go_ret
    exact ⟨rfl, rfl⟩
  · have h2' : (k == 2) = false := by simpa using h2
    by_cases h3 : k = 3
    · subst h3
      clear h2 h2'
      go_enter Try.func24, Try.ntmps24
      go_wp2
      go_ret
      exact ⟨rfl, rfl⟩
    · have h3' : (k == 3) = false := by simpa using h3
      have e : decide (k = 2 ∨ k = 3) = false := by simp [h2, h3]
      rw [e]
      clear h2 h3 e
      go_enter Try.func24, Try.ntmps24
      go_wp2
      go_ret
      exact ⟨rfl, rfl⟩

end Go.Proofs.Qxb6602416a
