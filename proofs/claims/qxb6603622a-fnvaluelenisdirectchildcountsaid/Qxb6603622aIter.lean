import Derived.RangeFuncNested
import Derived.RangeFuncBound
import Derived.RangeFuncCalls
import Derived.RangeFuncLeaves
import Derived.Shelf.Abstract
import Derived.Shelf.RegionOpen
import Derived.WalkKit
import Derived.OwnWalkIn
import Derived.TacticsInMore
import Derived.LoopNIn
import Derived.LoopIn
import Derived.Sort.QuietIn
import Derived.Test.Qxb6603622aChecked
namespace Go.Proofs.Qxb6603622a
open Go.RowKit Go.Shelf
set_option linter.unusedVariables false
attribute [local go_sem] Oper.semAt_some

/-- The walk by 'next' behind node t. -/
def wk (nx : Nat → Nat) (t : Nat) : Nat → Nat
  | 0 => t + 1
  | k + 1 => nx (wk nx t k)
/-- The walk over an object's names: behind a name stands its value. -/
def mw (nx : Nat → Nat) (t : Nat) : Nat → Nat
  | 0 => t + 1
  | k + 1 => nx (mw nx t k + 1)
def upto (f : Nat → Nat) (k : Nat) : List Nat := (List.range k).map f
theorem upto_succ (f : Nat → Nat) (k : Nat) : upto f (k + 1) = upto f k ++ [f k] := by simp [upto, List.range_succ]
theorem upto_length (f : Nat → Nat) (k : Nat) : (upto f k).length = k := by simp [upto]

/-- The document in block D: its nodes (n of them) lie below n₀. -/
structure DocAt (n₀ : Nat) (W : World) (D nb cap n : Nat) (kd : Nat → Int) (nx : Nat → Nat) : Prop where
  dlt : D < n₀
  nlt : nb < n₀
  nodes : W.cell? ⟨D, 1, none⟩ = some (.slice (some ⟨nb, 0, none⟩) n cap)
  kind : ∀ i, i < n → W.cell? ⟨nb, i * 5, none⟩ = some (.int .u8 (kd i))
  next : ∀ i, i < n → W.cell? ⟨nb, i * 5 + 4, none⟩ = some (.int .u32 (nx i : Nat))
theorem DocAt.below {n₀ : Nat} {W W' : World} {D nb cap n : Nat} {kd : Nat → Int} {nx : Nat → Nat} (h : DocAt n₀ W D nb cap n kd nx) (hb : Below n₀ W W') : DocAt n₀ W' D nb cap n kd nx :=
  ⟨h.dlt, h.nlt, (hb.cell (p := ⟨D, 1, none⟩) h.dlt).trans h.nodes, fun i hi => (hb.cell (p := ⟨nb, i * 5, none⟩) h.nlt).trans (h.kind i hi), fun i hi => (hb.cell (p := ⟨nb, i * 5 + 4, none⟩) h.nlt).trans (h.next i hi)⟩

/-- What a round keeps: whatever lies below n₀, and the two boxes that the iterator reads. -/
structure Kp (n₀ Ba Bd : Nat) (W W' : World) : Prop where
  bel : Below n₀ W W'
  keep : ∀ b, b = Ba ∨ b = Bd → ∀ v, W.cell? ⟨b, 0, none⟩ = some v → W'.cell? ⟨b, 0, none⟩ = some v
theorem Kp.refl (n₀ Ba Bd : Nat) (W : World) : Kp n₀ Ba Bd W W := ⟨Below.refl _ _, fun _ _ _ h => h⟩
theorem Kp.trans {n₀ Ba Bd : Nat} {A B C : World} (h : Kp n₀ Ba Bd A B) (k : Kp n₀ Ba Bd B C) : Kp n₀ Ba Bd A C := ⟨h.bel.trans k.bel, fun b hb v hv => k.keep b hb v (h.keep b hb v hv)⟩
theorem Kp.drewN (n₀ Ba Bd : Nat) (W : World) (k : Nat) : Kp n₀ Ba Bd W (W.drewN k) := ⟨⟨rfl, rfl, rfl, Nat.le_refl _, fun _ _ => rfl⟩, fun _ _ _ h => h⟩

set_option maxRecDepth 100000 in
set_option maxHeartbeats 2000000 in
theorem elements1_in (m : Nat) (hm : 1 ≤ m) (l Ba Bd n₀ D nb cap n at_ c : Nat) (kd : Nat → Int) (nx : Nat → Nat)
    (hn : n ≤ 65536) (hat : at_ < n) (hc : ∀ j, j < c → wk nx at_ j < nx at_) (hce : wk nx at_ c = nx at_) (hle : nx at_ ≤ n) (hup : ∀ i, i < n → i < nx i) (J Jx : List Nat → World → Prop)
    (hY : ∀ pre x W, J pre W → pre.length < c → YieldAt Fence.wide (m - 1) Try.prog l #[.int .u32 (x : Nat)] W fun e W' =>
      (e = .returned (.bool true) ∧ J (pre ++ [x]) W' ∧ Kp n₀ Ba Bd W W') ∨ (e = .returned (.bool false) ∧ Jx (pre ++ [x]) W'))
    (W : World) (ha : W.cell? ⟨Ba, 0, none⟩ = some (.int .u32 (at_ : Nat))) (hd : W.cell? ⟨Bd, 0, none⟩ = some (.pointer (some ⟨D, 0, none⟩))) (hD : DocAt n₀ W D nb cap n kd nx) (hJa : AbidesFrom W.heap.size J) (h0 : J [] W) :
    CallsIn Fence.wide m Try.prog 25 #[.func (.yield l) #[] #[], .pointer (some ⟨Ba, 0, none⟩), .pointer (some ⟨Bd, 0, none⟩)] W fun e W' => (∃ v, e = .returned v) ∧
      ((∃ ys, ys = upto (wk nx at_) c ∧ J ys W') ∨ (∃ pre, (∃ k, k ≤ c ∧ pre = upto (wk nx at_) k) ∧ Jx pre W')) := by
  refine callsIn_of_wp Try.func25 rfl trivial ?_ rfl
  simp only [Try.ntmps25, List.size_toArray, List.length_cons, List.length_nil, Nat.reduceAdd, Nat.reduceSub, Array.replicate_succ, Array.replicate_zero, List.push_toArray, List.append_toArray, List.nil_append, List.cons_append]
  gi_wp2
  gi_loopw [4] (fun i wr => ∃ k : Nat, k ≤ c ∧ i = .int .u32 ((wk nx at_ k : Nat) : Int) ∧ J (upto (wk nx at_) k) wr ∧ Kp n₀ Ba Bd W wr)
    (fun i _ => n - (intOf i).toNat)
  case atStart => exact ⟨0, Nat.zero_le _, by simp [wk], h0, Kp.refl _ _ _ _⟩
  case round =>
    obtain ⟨k, hk, rfl, hJs, hnx⟩ := hrel
    have hDk := hD.below hnx.bel
    have ha' := hnx.keep Ba (Or.inl rfl) _ ha
    have hd' := hnx.keep Bd (Or.inr rfl) _ hd
    have g0 := hDk.nodes
    have g1 := hDk.next at_ hat
    by_cases hlt : k < c
    · have hek := hc k hlt
      have hek1 : wk nx at_ (k + 1) = nx (wk nx at_ k) := rfl
      have hu := hup (wk nx at_ k) (by omega)
      have hYk := fun W1 h1 => hY (upto (wk nx at_) k) (wk nx at_ k) W1 h1 (by rw [upto_length]; exact hlt)
      have HK := (show Hid _ from upto_succ (wk nx at_) k)
      have HYk := (show Hid _ from hYk); clear hYk
      generalize wk nx at_ k = e at *
      gi_wp2
      gi_quiet (fail)
      have hJd := hJa _ _ (wr.drewN nq) none hJs ⟨rfl, rfl, rfl, Nat.le_refl _, fun _ _ _ => rfl⟩ (fun r e => by cases e)
      have hwd := Kp.drewN n₀ Ba Bd wr nq
      obtain ⟨fn, tmps, assign, body, hy, hR⟩ := HYk.out (wr.drewN nq) hJd
      gi_wp2
      refine hR.mono ?_
      rintro e' W3 (⟨rfl, hJ3, hk3⟩ | ⟨rfl, hJx3⟩)
      · have hnx3 := (hnx.trans hwd).trans hk3
        have hD3 := hD.below hnx3.bel
        have d' := hnx3.keep Bd (Or.inr rfl) _ hd
        have r0 := hD3.nodes
        have r1 := hD3.next e (by omega)
        gi_wp2
        go_roundw
        case rel => exact ⟨k + 1, by omega, by rw [hek1], by rw [HK.out]; exact hJ3, hnx3⟩
        case measure => simp [intOf]; omega
      · gi_wp2
        refine bodyPost_ret (results_none rfl _ _ _) rfl ?_
        exact ⟨⟨_, rfl⟩, .inr ⟨_, ⟨k + 1, by omega, HK.out.symm⟩, hJx3⟩⟩
    · obtain rfl : k = c := by omega
      rw [hce]
      gi_wp2
      gi_quiet (fail)
      gi_wp2
      go_end0
      exact ⟨⟨_, rfl⟩, .inl ⟨_, rfl, hJa _ _ (wr.drewN nq) none hJs ⟨rfl, rfl, rfl, Nat.le_refl _, fun _ _ _ => rfl⟩ (fun r e => by cases e)⟩⟩

set_option maxRecDepth 100000 in
set_option maxHeartbeats 2000000 in
theorem members1_in (m : Nat) (hm : 1 ≤ m) (l Ba Bd n₀ D nb cap n at_ c : Nat) (kd : Nat → Int) (nx : Nat → Nat)
    (hn : n ≤ 65536) (hat : at_ < n) (hc : ∀ j, j < c → mw nx at_ j < nx at_) (hce : mw nx at_ c = nx at_) (hle : nx at_ ≤ n) (hin : ∀ j, j < c → mw nx at_ j + 1 < n) (hup : ∀ i, i < n → i < nx i) (J Jx : List Nat → World → Prop)
    (hY : ∀ pre x W, J pre W → pre.length < c → YieldAt Fence.wide (m - 1) Try.prog l #[.int .u32 (x : Nat)] W fun e W' =>
      (e = .returned (.bool true) ∧ J (pre ++ [x]) W' ∧ Kp n₀ Ba Bd W W') ∨ (e = .returned (.bool false) ∧ Jx (pre ++ [x]) W'))
    (W : World) (ha : W.cell? ⟨Ba, 0, none⟩ = some (.int .u32 (at_ : Nat))) (hd : W.cell? ⟨Bd, 0, none⟩ = some (.pointer (some ⟨D, 0, none⟩))) (hD : DocAt n₀ W D nb cap n kd nx) (hJa : AbidesFrom W.heap.size J) (h0 : J [] W) :
    CallsIn Fence.wide m Try.prog 24 #[.func (.yield l) #[] #[], .pointer (some ⟨Ba, 0, none⟩), .pointer (some ⟨Bd, 0, none⟩)] W fun e W' => (∃ v, e = .returned v) ∧
      ((∃ ys, ys = upto (mw nx at_) c ∧ J ys W') ∨ (∃ pre, (∃ k, k ≤ c ∧ pre = upto (mw nx at_) k) ∧ Jx pre W')) := by
  refine callsIn_of_wp Try.func24 rfl trivial ?_ rfl
  simp only [Try.ntmps24, List.size_toArray, List.length_cons, List.length_nil, Nat.reduceAdd, Nat.reduceSub, Array.replicate_succ, Array.replicate_zero, List.push_toArray, List.append_toArray, List.nil_append, List.cons_append]
  gi_wp2
  gi_loopw [4] (fun i wr => ∃ k : Nat, k ≤ c ∧ i = .int .u32 ((mw nx at_ k : Nat) : Int) ∧ J (upto (mw nx at_) k) wr ∧ Kp n₀ Ba Bd W wr)
    (fun i _ => n - (intOf i).toNat)
  case atStart => exact ⟨0, Nat.zero_le _, by simp [mw], h0, Kp.refl _ _ _ _⟩
  case round =>
    obtain ⟨k, hk, rfl, hJs, hnx⟩ := hrel
    have hDk := hD.below hnx.bel
    have ha' := hnx.keep Ba (Or.inl rfl) _ ha
    have hd' := hnx.keep Bd (Or.inr rfl) _ hd
    have g0 := hDk.nodes
    have g1 := hDk.next at_ hat
    by_cases hlt : k < c
    · have hek := hc k hlt
      have hek1 : mw nx at_ (k + 1) = nx (mw nx at_ k + 1) := rfl
      have hin1 := hin k hlt
      have hu := hup (mw nx at_ k + 1) (by omega)
      have hYk := fun W1 h1 => hY (upto (mw nx at_) k) (mw nx at_ k) W1 h1 (by rw [upto_length]; exact hlt)
      have HK := (show Hid _ from upto_succ (mw nx at_) k)
      have HYk := (show Hid _ from hYk); clear hYk
      generalize mw nx at_ k = e at *
      gi_wp2
      gi_quiet (fail)
      have hJd := hJa _ _ (wr.drewN nq) none hJs ⟨rfl, rfl, rfl, Nat.le_refl _, fun _ _ _ => rfl⟩ (fun r e => by cases e)
      have hwd := Kp.drewN n₀ Ba Bd wr nq
      obtain ⟨fn, tmps, assign, body, hy, hR⟩ := HYk.out (wr.drewN nq) hJd
      gi_wp2
      refine hR.mono ?_
      rintro e' W3 (⟨rfl, hJ3, hk3⟩ | ⟨rfl, hJx3⟩)
      · have hnx3 := (hnx.trans hwd).trans hk3
        have hD3 := hD.below hnx3.bel
        have d' := hnx3.keep Bd (Or.inr rfl) _ hd
        have r0 := hD3.nodes
        have r1 := hD3.next (e + 1) (by omega)
        gi_wp2
        go_roundw
        case rel => exact ⟨k + 1, by omega, by rw [hek1], by rw [HK.out]; exact hJ3, hnx3⟩
        case measure => simp [intOf]; omega
      · gi_wp2
        refine bodyPost_ret (results_none rfl _ _ _) rfl ?_
        exact ⟨⟨_, rfl⟩, .inr ⟨_, ⟨k + 1, by omega, HK.out.symm⟩, hJx3⟩⟩
    · obtain rfl : k = c := by omega
      rw [hce]
      gi_wp2
      gi_quiet (fail)
      gi_wp2
      go_end0
      exact ⟨⟨_, rfl⟩, .inl ⟨_, rfl, hJa _ _ (wr.drewN nq) none hJs ⟨rfl, rfl, rfl, Nat.le_refl _, fun _ _ _ => rfl⟩ (fun r e => by cases e)⟩⟩

set_option maxHeartbeats 1000000 in
/-- d.elements(at): both are boxed; the function value captures the boxes. -/
theorem elements_in (m : Nat) (p : Value) (q : Value) (w : World) (hp : ∃ a, p = .pointer a) (hq : ∃ z, q = .int .u32 z) :
    CallsIn Fence.wide m Try.prog 23 #[p, q] w fun e w' => e = .returned (.func (.func 25) #[] #[.pointer (some ⟨w.heap.size + 1, 0, none⟩), .pointer (some ⟨w.heap.size, 0, none⟩)]) ∧ w' = (w.alloc (.cells #[p] 29)).alloc (.cells #[q] 24) := by
  obtain ⟨a, rfl⟩ := hp
  obtain ⟨z, rfl⟩ := hq
  refine callsIn_of_wp Try.func23 rfl trivial ?_ rfl
  simp only [Try.ntmps23, List.size_toArray, List.length_cons, List.length_nil, Nat.reduceAdd, Nat.reduceSub, Array.replicate_succ, Array.replicate_zero, List.push_toArray, List.append_toArray, List.nil_append, List.cons_append]
  gi_wp2
  go_ret
  exact ⟨rfl, rfl⟩
set_option maxHeartbeats 1000000 in
theorem members_in (m : Nat) (p : Value) (q : Value) (w : World) (hp : ∃ a, p = .pointer a) (hq : ∃ z, q = .int .u32 z) :
    CallsIn Fence.wide m Try.prog 22 #[p, q] w fun e w' => e = .returned (.func (.func 24) #[] #[.pointer (some ⟨w.heap.size + 1, 0, none⟩), .pointer (some ⟨w.heap.size, 0, none⟩)]) ∧ w' = (w.alloc (.cells #[p] 29)).alloc (.cells #[q] 24) := by
  obtain ⟨a, rfl⟩ := hp
  obtain ⟨z, rfl⟩ := hq
  refine callsIn_of_wp Try.func22 rfl trivial ?_ rfl
  simp only [Try.ntmps22, List.size_toArray, List.length_cons, List.length_nil, Nat.reduceAdd, Nat.reduceSub, Array.replicate_succ, Array.replicate_zero, List.push_toArray, List.append_toArray, List.nil_append, List.cons_append]
  gi_wp2
  go_ret
  exact ⟨rfl, rfl⟩

theorem elements_stops (m : Nat) (hm : 1 ≤ m) (Ba Bd n₀ D nb cap n at_ c : Nat) (kd : Nat → Int) (nx : Nat → Nat)
    (hn : n ≤ 65536) (hat : at_ < n) (hc : ∀ j, j < c → wk nx at_ j < nx at_) (hce : wk nx at_ c = nx at_) (hle : nx at_ ≤ n) (hup : ∀ i, i < n → i < nx i) (w : World) (hn₀ : n₀ ≤ w.heap.size) (hBa : Ba < w.heap.size) (hBd : Bd < w.heap.size)
    (ha : w.cell? ⟨Ba, 0, none⟩ = some (.int .u32 (at_ : Nat))) (hd : w.cell? ⟨Bd, 0, none⟩ = some (.pointer (some ⟨D, 0, none⟩))) (hD : DocAt n₀ w D nb cap n kd nx) :
    SeqStopsK Fence.wide m Try.prog 25 #[.pointer (some ⟨Ba, 0, none⟩), .pointer (some ⟨Bd, 0, none⟩)] (fun x : Nat => #[Value.int .u32 (x : Int)]) (Kp n₀ Ba Bd) (fun ys => ys = upto (wk nx at_) c) (fun _ => True) c w := fun l J Jx W hW hJa _ hY h0 => by
  have hW' := hW.mono hn₀
  refine (elements1_in m hm l Ba Bd n₀ D nb cap n at_ c kd nx hn hat hc hce hle hup J Jx hY W ((hW.cell (p := ⟨Ba, 0, none⟩) hBa).trans ha) ((hW.cell (p := ⟨Bd, 0, none⟩) hBd).trans hd) (hD.below hW') hJa h0).mono ?_
  rintro e W' ⟨he, ⟨ys, rfl, hj⟩ | ⟨pre, _, hj⟩⟩
  · exact ⟨he, .inl ⟨_, rfl, hj⟩⟩
  · exact ⟨he, .inr ⟨_, trivial, hj⟩⟩
theorem members_stops (m : Nat) (hm : 1 ≤ m) (Ba Bd n₀ D nb cap n at_ c : Nat) (kd : Nat → Int) (nx : Nat → Nat)
    (hn : n ≤ 65536) (hat : at_ < n) (hc : ∀ j, j < c → mw nx at_ j < nx at_) (hce : mw nx at_ c = nx at_) (hle : nx at_ ≤ n) (hin : ∀ j, j < c → mw nx at_ j + 1 < n) (hup : ∀ i, i < n → i < nx i) (w : World) (hn₀ : n₀ ≤ w.heap.size) (hBa : Ba < w.heap.size) (hBd : Bd < w.heap.size)
    (ha : w.cell? ⟨Ba, 0, none⟩ = some (.int .u32 (at_ : Nat))) (hd : w.cell? ⟨Bd, 0, none⟩ = some (.pointer (some ⟨D, 0, none⟩))) (hD : DocAt n₀ w D nb cap n kd nx) :
    SeqStopsK Fence.wide m Try.prog 24 #[.pointer (some ⟨Ba, 0, none⟩), .pointer (some ⟨Bd, 0, none⟩)] (fun x : Nat => #[Value.int .u32 (x : Int)]) (Kp n₀ Ba Bd) (fun ys => ys = upto (mw nx at_) c) (fun _ => True) c w := fun l J Jx W hW hJa _ hY h0 => by
  have hW' := hW.mono hn₀
  refine (members1_in m hm l Ba Bd n₀ D nb cap n at_ c kd nx hn hat hc hce hle hin hup J Jx hY W ((hW.cell (p := ⟨Ba, 0, none⟩) hBa).trans ha) ((hW.cell (p := ⟨Bd, 0, none⟩) hBd).trans hd) (hD.below hW') hJa h0).mono ?_
  rintro e W' ⟨he, ⟨ys, rfl, hj⟩ | ⟨pre, _, hj⟩⟩
  · exact ⟨he, .inl ⟨_, rfl, hj⟩⟩
  · exact ⟨he, .inr ⟨_, trivial, hj⟩⟩

end Go.Proofs.Qxb6603622a
