import Derived.Test.Qxb6603985aDoorBld
import Derived.Test.Qxb6603985aDoorShelf
import Derived.Laws.Concat
import Derived.Lib.ItoaLen
namespace Go.Proofs.Qxb6603985aDoor
open Go.RowKit
set_option linter.unusedVariables false

/-- Side.String, in bytes. -/
def sideS (n : Int) : ByteArray :=
  if n = 0 then ⟨#[100, 101, 115, 116, 105, 110, 97, 116, 105, 111, 110]⟩ else if n = 1 then ⟨#[115, 111, 117, 114, 99, 101]⟩
  else ⟨#[83, 105, 100, 101, 40]⟩ ++ ⟨(Lib.itoa n).toArray⟩ ++ ⟨#[41]⟩

theorem cat (a b : ByteArray) (h : a.size + b.size ≤ 9223372036854775807) (w : World) : (Op.stringOp .add a b).run Tryd.prog w = .ok (.string (a ++ b)) w := run_string_add_sum (w := w) (a := a) (b := b) h

theorem sideS_le (n : Int) (h0 : -9223372036854775808 ≤ n) (h1 : n ≤ 9223372036854775807) : (sideS n).size ≤ 27 := by
  unfold sideS
  split
  · decide
  · split
    · decide
    · rw [ByteArray.size_append, ByteArray.size_append]
      have := Lib.itoa_length_le n h0 h1
      simp [ByteArray.size]; omega

theorem below_drewN (w : World) : ∀ n, Below w.heap.size w (w.drewN n)
  | 0 => Below.refl _ _
  | n + 1 => (below_drewN w n).drew
theorem below_heap {w w' : World} {k : Nat} {os : Array Obj} (h : w' = { w.drewN k with heap := (w.drewN k).heap ++ os }) : Below w.heap.size w w' := by
  subst h
  refine (below_drewN w k).trans ⟨rfl, rfl, rfl, by simp, fun i hi => ?_⟩
  have hi' : i < (w.drewN k).heap.size := Nat.lt_of_lt_of_le hi (below_drewN w k).size
  exact Array.getElem?_append_left hi'

set_option maxHeartbeats 1000000 in
theorem side_any (n : Int) (h0 : -9223372036854775808 ≤ n) (h1 : n ≤ 9223372036854775807) (w : World) (htab : Lib.TabIs Tryd.prog w "internal/strconv.uint64pow10" .u64 Lib.pow10Tab) :
    Calls Tryd.prog 5 #[.int .i64 n] w fun e w' => e = .returned (.string (sideS n)) ∧ Below w.heap.size w w' := by
  by_cases g0 : n = 0
  · subst g0
    go_enter Tryd.func5, Tryd.ntmps5
    go_wp2_with fail
    go_ret
    exact ⟨rfl, Below.refl _ _⟩
  · by_cases g1 : n = 1
    · subst g1
      go_enter Tryd.func5, Tryd.ntmps5
      go_wp2_with fail
      go_ret
      exact ⟨rfl, Below.refl _ _⟩
    · have hit := Tryd.strconv_Itoa n h0 h1 w htab
      have hl := Lib.itoa_length_le n h0 h1
      have hs : sideS n = ⟨#[83, 105, 100, 101, 40]⟩ ++ ⟨(Lib.itoa n).toArray⟩ ++ ⟨#[41]⟩ := by unfold sideS; rw [if_neg g0, if_neg g1]
      rw [hs]
      have hsz : (⟨(Lib.itoa n).toArray⟩ : ByteArray).size ≤ 21 := by simpa [ByteArray.size] using hl
      generalize (⟨(Lib.itoa n).toArray⟩ : ByteArray) = it at *
      have c1 := cat ⟨#[83, 105, 100, 101, 40]⟩ it (by have e1 : (⟨#[83, 105, 100, 101, 40]⟩ : ByteArray).size = 5 := rfl; omega)
      have c2 := cat (⟨#[83, 105, 100, 101, 40]⟩ ++ it) ⟨#[41]⟩ (by have e1 : (⟨#[83, 105, 100, 101, 40]⟩ : ByteArray).size = 5 := rfl; have e2 : (⟨#[41]⟩ : ByteArray).size = 1 := rfl; rw [ByteArray.size_append]; omega)
      have g0' : (n == 0) = false := by simpa using g0
      have g1' : (n == 1) = false := by simpa using g1
      clear hs hl g0 g1
      go_enter Tryd.func5, Tryd.ntmps5
      go_wp2_with (go_at_call 10; refine hit.mono ?_; rintro e w1 ⟨rfl, k, os, hw⟩; have hb1 := below_heap (k := k) (os := os) hw; clear hw)
      go_ret
      exact ⟨rfl, hb1⟩

end Go.Proofs.Qxb6603985aDoor
