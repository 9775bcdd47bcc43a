import Derived.Test.Qxb6603985aDoorSide
namespace Go.Proofs.Qxb6603985aDoor
open Go.RowKit
set_option linter.unusedVariables false

/-- A Mismatch. -/
structure M where
  side : Int
  path : ByteArray
  reason : ByteArray
def mZero : M := ⟨0, ByteArray.empty, ByteArray.empty⟩
def pathS (p : ByteArray) : ByteArray := if p.toList = [] then ⟨#[40, 118, 97, 108, 117, 101, 41]⟩ else p
def itemS (m : M) : ByteArray := sideS m.side ++ ⟨#[32]⟩ ++ pathS m.path ++ ⟨#[58, 32]⟩ ++ m.reason
/-- The text of the first k mismatches. -/
def bodyN (ms : List M) : Nat → List UInt8
  | 0 => []
  | k + 1 => bodyN ms k ++ (if k = 0 then [] else [59, 32]) ++ (itemS (ms.getD k mZero)).data.toList

theorem bodyN_left (a b : List M) : ∀ k, k ≤ a.length → bodyN (a ++ b) k = bodyN a k := by
  intro k
  induction k with
  | zero => intro _; rfl
  | succ k ih =>
    intro hk
    simp only [bodyN]
    rw [ih (by omega)]
    have : (a ++ b).getD k mZero = a.getD k mZero := by simp [List.getD, List.getElem?_append_left (show k < a.length by omega)]
    rw [this]
theorem bodyN_right (a b : List M) (ha : a ≠ []) : ∀ k, 0 < k → k ≤ b.length → bodyN (a ++ b) (a.length + k) = bodyN a a.length ++ [59, 32] ++ bodyN b k := by
  intro k
  have hl : a.length ≠ 0 := by simpa using ha
  have hg : ∀ j, (a ++ b).getD (a.length + j) mZero = b.getD j mZero := fun j => by rw [List.getD_eq_getElem?_getD, List.getD_eq_getElem?_getD, List.getElem?_append_right (by omega), Nat.add_sub_cancel_left]
  induction k with
  | zero => intro h; omega
  | succ k ih =>
    intro _ hk
    rw [show a.length + (k + 1) = (a.length + k) + 1 from rfl]
    simp only [bodyN]
    rw [if_neg (by omega), hg]
    by_cases h0 : k = 0
    · subst h0
      rw [Nat.add_zero, bodyN_left a b a.length (Nat.le_refl _)]
      simp [bodyN]
    · rw [ih (by omega) (by omega), if_neg h0]
      simp [List.append_assoc]

end Go.Proofs.Qxb6603985aDoor
