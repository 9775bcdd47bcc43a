import Derived.Test.Qxb6603622aShape
namespace Go.Proofs.Qxb6603622a
open Go.RowKit
set_option linter.unusedVariables false

def BoolPost (w : World) (e : Ending) (w' : World) : Prop := ∃ b, e = .returned (.bool b) ∧ Below w.heap.size w w'
theorem BoolPost.mk {w w' : World} {b : Bool} (h : Below w.heap.size w w') : BoolPost w (.returned (.bool b)) w' := ⟨b, rfl, h⟩
def TruePost (w : World) (e : Ending) (w' : World) : Prop := e = .returned (.bool true) ∧ Below w.heap.size w w'

set_option maxHeartbeats 1000000 in
theorem zzBytes_any (w : World) (a0 a1 : Option Addr) (n m c0 c1 : Nat) (at_ : Int) : Calls Try.prog 6 #[.slice a0 n c0, .slice a1 m c1, .int .u32 at_] w (BoolPost w) := by
  go_enter Try.func6, Try.ntmps6
  go_wp2_with fail
  all_goals (go_ret; exact BoolPost.mk (Below.refl _ _))

set_option maxHeartbeats 1000000 in
theorem valueAt_any (w : World) (D at_ : Nat) : Calls Try.prog 9 #[.pointer (some ⟨D, 0, none⟩), .int .u32 (at_ : Nat)] w fun e w' => e = .returned (.agg #[.pointer (some ⟨D, 0, none⟩), .int .u32 (at_ : Nat)]) ∧ Below w.heap.size w w' := by
  go_enter Try.func9, Try.ntmps9
  go_wp2_with fail
  have hb : (w.alloc (.cells #[.pointer (some ⟨D, 0, none⟩), .int .u32 (at_ : Nat)] 33)).heap[w.heap.size]? = some (.cells #[.pointer (some ⟨D, 0, none⟩), .int .u32 (at_ : Nat)] 33 (0, 0)) := heap_alloc_new _ _
  have q0 := cell_of (j := 0) hb rfl
  have q1 := cell_of (j := 1) hb rfl
  refine bodyPost_ret (v := .agg #[.pointer (some ⟨D, 0, none⟩), .int .u32 (at_ : Nat)]) ?_ rfl ⟨rfl, (Below.refl _ _).alloc (Nat.le_refl _) _⟩
  simp [results, Try.f9, go_sem, q0, q1]

/-- What count answers, by the kind. -/
def want (kd : Nat → Int) (ch : Nat → Nat) (at_ : Nat) : Nat := if kd at_ = 5 then ch at_ else if kd at_ = 6 then ch at_ / 2 else 0
theorem count_any (D nb cap n at_ : Nat) (kd : Nat → Int) (nx ch : Nat → Nat) (hn : n ≤ 65536) (hat : at_ < n) (hs : Shaped n kd nx ch) (W : World) (hD : DocAt W.heap.size W D nb cap n kd nx) :
    Calls Try.prog 20 #[.pointer (some ⟨D, 0, none⟩), .int .u32 (at_ : Nat)] W fun e W' => e = .returned (.int .i64 (want kd ch at_ : Nat)) ∧ Below W.heap.size W W' := by
  obtain ⟨hok, hcl, hle⟩ := hs
  have h1 := hok at_ hat
  have hup : ∀ i, i < n → i < nx i := fun i hi => (hok i hi).2.2.1
  have hc := hle at_
  by_cases h5 : kd at_ = 5
  · have e : want kd ch at_ = ch at_ := by simp [want, h5]
    obtain ⟨c1, c2, c3⟩ := hcl at_ hat (Or.inl h5)
    rw [e]
    exact (callsIn_wide (n := 3)).1 (countE_in 3 (by omega) D nb cap n at_ (ch at_) kd nx W hn hat (by simp; omega) c2.1 c1 h1.2.2.2.1 hup (by omega) hD)
  · by_cases h6 : kd at_ = 6
    · have e : want kd ch at_ = ch at_ / 2 := by simp [want, h6]
      obtain ⟨c1, c2, c3⟩ := hcl at_ hat (Or.inr h6)
      have hev := c3 h6
      rw [e]
      have key : ∀ j, 2 * j ≤ ch at_ → mw nx at_ j = wk nx at_ (2 * j) := mw_wk hok h1.2.2.2.1 h6 c2
      exact (callsIn_wide (n := 3)).1 (countM_in 3 (by omega) D nb cap n at_ (ch at_ / 2) kd nx W hn hat h6 (fun j hj => by rw [key j (by omega)]; exact c2.1 _ (by omega)) (by rw [key _ (by omega), show 2 * (ch at_ / 2) = ch at_ by omega]; exact c1) h1.2.2.2.1 (fun j hj => mw_next hok h1.2.2.2.1 h6 c2 j (by omega)) hup (by omega) hD)
    · have e : want kd ch at_ = 0 := by simp [want, h5, h6]
      rw [e]
      exact (callsIn_wide (n := 3)).1 (countE_in 3 (by omega) D nb cap n at_ 0 kd nx W hn hat (by simpa using h6) (fun j hj => by omega) (h1.2.2.2.2 h5 h6).symm h1.2.2.2.1 hup (by omega) hD)

end Go.Proofs.Qxb6603622a
