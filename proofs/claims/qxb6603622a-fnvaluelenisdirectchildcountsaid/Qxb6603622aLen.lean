import Derived.Test.Qxb6603622aCount
import Derived.WalkKit
import Derived.BigQuiet
import Derived.Deep.DeepCutAuto
namespace Go.Proofs.Qxb6603622a
open Go.RowKit
set_option linter.unusedVariables false

theorem below_drewN (w : World) : ∀ n, Below w.heap.size w (w.drewN n)
  | 0 => Below.refl _ _
  | n + 1 => (below_drewN w n).drew
theorem Below.next {w w1 w2 : World} (h : Below w.heap.size w w1) (k : Below w1.heap.size w1 w2) : Below w.heap.size w w2 := h.trans (k.mono h.size)
theorem DocAt.up {n₀ n₁ : Nat} {W : World} {D nb cap n : Nat} {kd : Nat → Int} {nx : Nat → Nat} (h : DocAt n₀ W D nb cap n kd nx) (hn : n₀ ≤ n₁) : DocAt n₁ W D nb cap n kd nx :=
  ⟨Nat.lt_of_lt_of_le h.dlt hn, Nat.lt_of_lt_of_le h.nlt hn, h.nodes, h.kind, h.next⟩

set_option maxHeartbeats 1000000 in
theorem kind_zero (w : World) : Calls Try.prog 18 #[.agg #[.pointer none, .int .u32 0]] w fun e w' => e = .returned (.int .u8 0) ∧ Below w.heap.size w w' := by
  go_enter Try.func18, Try.ntmps18
  go_wp2_with fail
  go_ret
  exact ⟨rfl, (Below.refl _ _).alloc (Nat.le_refl _) _⟩

set_option maxHeartbeats 1000000 in
theorem kind_at (D nb cap n at_ : Nat) (kd : Nat → Int) (nx : Nat → Nat) (w : World) (hn : n ≤ 65536) (hat : at_ < n) (hD : DocAt w.heap.size w D nb cap n kd nx) :
    Calls Try.prog 18 #[.agg #[.pointer (some ⟨D, 0, none⟩), .int .u32 (at_ : Nat)]] w fun e w' => e = .returned (.int .u8 (kd at_)) ∧ Below w.heap.size w w' := by
  have hB1 : Below w.heap.size w (w.alloc (.cells #[.pointer (some ⟨D, 0, none⟩), .int .u32 (at_ : Nat)] 33)) := (Below.refl _ w).alloc (Nat.le_refl _) _
  have g0 := (hD.below hB1).nodes
  have g1 := (hD.below hB1).kind at_ hat
  have h0 := hD.nodes
  have h1 := hD.kind at_ hat
  have dl := hD.dlt
  have nl := hD.nlt
  go_enter Try.func18, Try.ntmps18
  go_wp2_with fail
  go_quiet (fail)
  go_wp2_with fail
  go_ret
  exact ⟨rfl, hB1.trans ((below_drewN _ _).mono (by simp))⟩

set_option maxHeartbeats 1000000 in
theorem len_zero (w : World) : Calls Try.prog 10 #[.agg #[.pointer none, .int .u32 0]] w fun e w' => e = .returned (.int .i64 0) ∧ Below w.heap.size w w' := by
  go_enter Try.func10, Try.ntmps10
  go_wp2_with (go_at_call 18; refine (kind_zero _).mono ?_; rintro e w1 ⟨rfl, hb1⟩)
  go_ret
  exact ⟨rfl, ((Below.refl _ w).alloc (Nat.le_refl _) _).trans (hb1.mono (by simp))⟩

set_option maxHeartbeats 1000000 in
theorem len_at (D nb cap n at_ : Nat) (kd : Nat → Int) (nx : Nat → Nat) (w : World) (v : Int) (hn : n ≤ 65536) (hat : at_ < n) (hk : 1 ≤ kd at_) (hD : DocAt w.heap.size w D nb cap n kd nx)
    (hcnt : ∀ W, DocAt W.heap.size W D nb cap n kd nx → Calls Try.prog 20 #[.pointer (some ⟨D, 0, none⟩), .int .u32 (at_ : Nat)] W fun e W' => e = .returned (.int .i64 v) ∧ Below W.heap.size W W') :
    Calls Try.prog 10 #[.agg #[.pointer (some ⟨D, 0, none⟩), .int .u32 (at_ : Nat)]] w fun e w' => e = .returned (.int .i64 v) ∧ Below w.heap.size w w' := by
  have hB1 : Below w.heap.size w (w.alloc (.cells #[.pointer (some ⟨D, 0, none⟩), .int .u32 (at_ : Nat)] 33)) := (Below.refl _ w).alloc (Nat.le_refl _) _
  have hK := kind_at D nb cap n at_ kd nx _ hn hat ((hD.below hB1).up (by simp))
  have HC := (show Hid _ from hcnt); clear hcnt
  have hk0 : (kd at_ == 0) = false := by simp; omega
  have hbl : (w.alloc (.cells #[.pointer (some ⟨D, 0, none⟩), .int .u32 (at_ : Nat)] 33)).heap[w.heap.size]? = some (.cells #[.pointer (some ⟨D, 0, none⟩), .int .u32 (at_ : Nat)] 33 (0, 0)) := heap_alloc_new _ _
  have HB := (show Hid _ from hbl); clear hbl
  go_enter Try.func10, Try.ntmps10
  go_wp2_with (go_at_call 18; refine hK.mono ?_)
  rintro e w1 ⟨rfl, hb1⟩
  have hb' : w1.heap[w.heap.size]? = _ := (hb1.block w.heap.size (by simp)).trans HB.out
  have q0 := cell_of (j := 0) hb' rfl
  have q1 := cell_of (j := 1) hb' rfl
  have hB2 := hB1.trans (hb1.mono (by simp))
  clear hK
  go_wp2_with fail
  refine (HC.out w1 ((hD.below hB2).up hB2.size)).mono ?_
  rintro e w2 ⟨rfl, hb2⟩
  go_wp2_with fail
  go_ret
  exact ⟨rfl, Below.next hB2 hb2⟩

end Go.Proofs.Qxb6603622a
