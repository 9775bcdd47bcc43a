import Derived.Test.Qxb6602416aLawB
/-
  The plain law of 'matches the latest-writer model': the state that conflictGraph keeps for an item, said by the ops alone.
-/
namespace Go.Proofs.Qxb6602416a
open Go.RowKit
set_option linter.unusedVariables false

/-- The node of op i, or -1. -/
def nodeI (ids : List Int) (ops : List OpR) (i : Nat) : Int := lastI ids (ops.getD i opZero).txn
/-- Op i is a committed op of kind k on item x. -/
def isOp (ids : List Int) (ops : List OpR) (k : Int) (x : ByteArray) (i : Nat) : Bool := decide (0 ≤ nodeI ids ops i) && (decide ((ops.getD i opZero).kind = k) && decide ((ops.getD i opZero).item = x))
/-- The readers of x from op s on, d ops of them, a run counted once. -/
def runR (ids : List Int) (ops : List OpR) (x : ByteArray) (s : Nat) : Nat → List Int
  | 0 => []
  | d + 1 => if isOp ids ops 2 x (s + d) = true then Plain.once (runR ids ops x s d) (nodeI ids ops (s + d)) else runR ids ops x s d

theorem nodeI_some {ids : List Int} {ops : List OpR} {i v : Nat} (h : nd ids ops i = some v) : nodeI ids ops i = (v : Int) := by
  unfold nodeI lastI; unfold nd at h; rw [h]
theorem nodeI_none {ids : List Int} {ops : List OpR} {i : Nat} (h : nd ids ops i = none) : nodeI ids ops i = -1 := by
  unfold nodeI lastI; unfold nd at h; rw [h]

/-- What the state holds for item x behind j ops: s: the place behind the latest write. -/
def Tells (ids : List Int) (ops : List OpR) (j : Nat) (x : ByteArray) (a : Int × List Int) (s : Nat) : Prop :=
  s ≤ j ∧ a.2 = runR ids ops x s (j - s) ∧ (∀ i, s ≤ i → i < j → isOp ids ops 3 x i = false) ∧ ((s = 0 ∧ a.1 = -1) ∨ (0 < s ∧ isOp ids ops 3 x (s - 1) = true ∧ a.1 = nodeI ids ops (s - 1)))

theorem Tells.pass {ids : List Int} {ops : List OpR} {j : Nat} {x : ByteArray} {a : Int × List Int} {s : Nat} (h : Tells ids ops j x a s) (h2 : isOp ids ops 2 x j = false) (h3 : isOp ids ops 3 x j = false) : Tells ids ops (j + 1) x a s := by
  obtain ⟨q1, q2, q3, q4⟩ := h
  refine ⟨by omega, ?_, fun i hi hj => ?_, q4⟩
  · rw [show j + 1 - s = (j - s) + 1 by omega]
    simp only [runR]
    rw [show s + (j - s) = j by omega, h2, q2]
    simp
  · rcases Nat.lt_succ_iff_lt_or_eq.1 hj with h | h
    · exact q3 i hi h
    · rw [h]; exact h3
theorem Tells.read {ids : List Int} {ops : List OpR} {j v : Nat} {x : ByteArray} {a : Int × List Int} {s : Nat} (h : Tells ids ops j x a s) (h2 : isOp ids ops 2 x j = true) (h3 : isOp ids ops 3 x j = false) (hv : nodeI ids ops j = (v : Int)) : Tells ids ops (j + 1) x (a.1, Plain.once a.2 v) s := by
  obtain ⟨q1, q2, q3, q4⟩ := h
  refine ⟨by omega, ?_, fun i hi hj => ?_, q4⟩
  · rw [show j + 1 - s = (j - s) + 1 by omega]
    simp only [runR]
    rw [show s + (j - s) = j by omega, h2, if_pos rfl, hv, q2]
  · rcases Nat.lt_succ_iff_lt_or_eq.1 hj with h | h
    · exact q3 i hi h
    · rw [h]; exact h3
theorem tells_write {ids : List Int} {ops : List OpR} {j v : Nat} {x : ByteArray} (h3 : isOp ids ops 3 x j = true) (hv : nodeI ids ops j = (v : Int)) : Tells ids ops (j + 1) x ((v : Int), []) (j + 1) := by
  refine ⟨Nat.le_refl _, by simp [runR], fun i hi hj => by omega, .inr ⟨by omega, by simpa using h3, by simp [hv]⟩⟩

theorem acc_tells (ids : List Int) (ops : List OpR) : ∀ j, j ≤ ops.length → ∀ x, ∃ s, Tells ids ops j x ((gsAt ids ops j).acc x) s := by
  intro j
  induction j with
  | zero =>
    intro _ x
    exact ⟨0, Nat.le_refl _, by simp [runR, gsAt, Plain.GS.acc, Plain.GS.zero], fun i hi hj => by omega, .inl ⟨rfl, by simp [gsAt, Plain.GS.acc, Plain.GS.zero]⟩⟩
  | succ j ih =>
    intro hj x
    obtain ⟨s, hs⟩ := ih (by omega) x
    rw [gsAt_succ ids ops j (by omega)]
    obtain ⟨o, ho⟩ : ∃ o, ops.getD j opZero = o := ⟨_, rfl⟩
    rw [ho]
    cases hl : Plain.lastIdx ids o.txn with
    | none =>
      have hn := nodeI_none (ids := ids) (ops := ops) (i := j) (by unfold nd; rw [ho]; exact hl)
      have e : Plain.gstep ids (gsAt ids ops j) o.txn o.item o.kind = gsAt ids ops j := by simp [Plain.gstep, hl]
      rw [e]
      exact ⟨s, hs.pass (by simp [isOp, hn]) (by simp [isOp, hn])⟩
    | some v =>
      have hv := nodeI_some (ids := ids) (ops := ops) (i := j) (v := v) (by unfold nd; rw [ho]; exact hl)
      have hv0 : decide (0 ≤ nodeI ids ops j) = true := by rw [hv]; simp
      by_cases h2 : o.kind = 2
      · rw [h2, gstep_read hl]
        by_cases hx : x = o.item
        · rw [hx, acc_set_same]
          rw [hx] at hs
          exact ⟨s, hs.read (by simp only [isOp, hv0, ho, h2]; simp) (by simp only [isOp, hv0, ho, h2]; simp) hv⟩
        · rw [acc_set_other _ _ _ _ _ hx]
          exact ⟨s, hs.pass (by simp only [isOp, hv0, ho, h2]; simp [Ne.symm hx]) (by simp only [isOp, hv0, ho, h2]; simp)⟩
      · by_cases h3 : o.kind = 3
        · rw [h3, gstep_write hl]
          by_cases hx : x = o.item
          · rw [hx, acc_set_same]
            exact ⟨j + 1, tells_write (by simp only [isOp, hv0, ho, h3]; simp) hv⟩
          · rw [acc_set_other _ _ _ _ _ hx]
            exact ⟨s, hs.pass (by simp only [isOp, hv0, ho, h3]; simp) (by simp only [isOp, hv0, ho, h3]; simp [Ne.symm hx])⟩
        · have e : Plain.gstep ids (gsAt ids ops j) o.txn o.item o.kind = gsAt ids ops j := by simp [Plain.gstep, hl, h2, h3]
          rw [e]
          exact ⟨s, hs.pass (by simp only [isOp, hv0, ho]; simp [h2]) (by simp only [isOp, hv0, ho]; simp [h3])⟩

/-- How many different numbers stand among the first k. -/
def distN (zs : List Int) : Nat → Nat
  | 0 => 0
  | k + 1 => distN zs k + if (zs.take k).contains (zs.getD k 0) = true then 0 else 1
theorem distN_le (zs : List Int) : ∀ k, distN zs k ≤ k
  | 0 => Nat.le_refl _
  | k + 1 => by have := distN_le zs k; simp only [distN]; split <;> omega
theorem nmap_mem (ids : List Int) (x : Int) : (mget (nmap ids) x).isSome = ids.contains x := by
  rw [mget_nmap, Option.isSome_map]
  cases hl : Plain.lastIdx ids x with
  | none => have := (Plain.lastIdx_none ids x).1 hl; simp [this]
  | some i =>
    have : x ∈ ids := by
      apply Classical.byContradiction
      intro h
      rw [(Plain.lastIdx_none ids x).2 h] at hl; cases hl
    simp [this]
theorem nmap_length (ids : List Int) : ∀ k, k ≤ ids.length → (nmap (ids.take k)).length = distN ids k := by
  intro k
  induction k with
  | zero => intro _; simp [nmap, nmapAux, distN]
  | succ k ih =>
    intro h
    have e : ids.take (k + 1) = ids.take k ++ [ids.getD k 0] := by
      rw [List.take_succ_eq_append_getElem (by omega)]
      simp [List.getD, show k < ids.length by omega]
    rw [e, nmap_snoc, mput_length, nmap_mem, ih (by omega)]
    simp only [distN]
    split <;> rfl

end Go.Proofs.Qxb6602416a
