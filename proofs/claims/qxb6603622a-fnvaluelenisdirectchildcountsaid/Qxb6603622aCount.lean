import Derived.Test.Qxb6603622aIter
import Derived.RangeFuncFrom
namespace Go.Proofs.Qxb6603622a
open Go.RowKit Go.Shelf
set_option linter.unusedVariables false
attribute [local go_sem] Oper.semAt_some

theorem cell_of {w : World} {b j : Nat} {c : Array Value} {e : TypeId} {v : Value} (h : w.heap[b]? = some (.cells c e (0, 0))) (hv : c[j]? = some v) : w.cell? ⟨b, j, none⟩ = some v := by simp [World.cell?, h, hv]
theorem frozen_of {w : World} {b j : Nat} {c : Array Value} {e : TypeId} (h : w.heap[b]? = some (.cells c e (0, 0))) : w.frozen? ⟨b, j, none⟩ = false := by simp [World.frozen?, h]
theorem Kp.put {n₀ Ba Bd : Nat} {w : World} (hn : n₀ ≤ w.heap.size) (ha : Ba < w.heap.size) (hd : Bd < w.heap.size) (W : World) (l : Nat) (o o' : Obj) (hl : w.heap.size ≤ l) (h : W.heap[l]? = some o) (h1 : o.isCells = false) (h2 : o.isWalk = false) : Kp n₀ Ba Bd W (W.putObj l o') := by
  refine ⟨belowK_b hn W l o o' hl h h1 h2, fun b hb v hv => ?_⟩
  have hbl : b < w.heap.size := by rcases hb with rfl | rfl <;> assumption
  rw [← hv]
  exact (belowK_b (n₀ := w.heap.size) (Nat.le_refl _) W l o o' hl h h1 h2).cell (p := ⟨b, 0, none⟩) hbl

set_option maxRecDepth 100000 in
set_option maxHeartbeats 2000000 in
/-- count at an array or a scalar. -/
theorem countE_in (m : Nat) (hm : 3 ≤ m) (D nb cap n at_ c : Nat) (kd : Nat → Int) (nx : Nat → Nat) (w : World)
    (hn : n ≤ 65536) (hat : at_ < n) (hk6 : (kd at_ == 6) = false) (hc : ∀ j, j < c → wk nx at_ j < nx at_) (hce : wk nx at_ c = nx at_) (hle : nx at_ ≤ n) (hup : ∀ i, i < n → i < nx i) (hcc : c ≤ 65536) (hD : DocAt w.heap.size w D nb cap n kd nx) :
    CallsIn Fence.wide m Try.prog 20 #[.pointer (some ⟨D, 0, none⟩), .int .u32 (at_ : Nat)] w fun e W' => e = .returned (.int .i64 (c : Nat)) ∧ Below w.heap.size w W' := by
  have h1 : 1 ≤ m := by omega
  have hB1 : Below w.heap.size w (w.alloc (.cells #[.int .i64 0] 3)) := (Below.refl _ w).alloc (Nat.le_refl _) _
  have g0 := (hD.below hB1).nodes
  have g1 := (hD.below hB1).kind at_ hat
  refine callsIn_of_wp_marks Try.func20 rfl trivial ?_ rfl
  simp only [Try.ntmps20, List.size_toArray, List.length_cons, List.length_nil, Nat.reduceAdd, Nat.reduceSub, Array.replicate_succ, Array.replicate_zero, List.push_toArray, List.append_toArray, List.nil_append, List.cons_append]
  gi_wp2_with (refine ⟨trivial, ?_⟩; gi_at_call 23; refine (elements_in (m - 1) _ _ _ ⟨_, rfl⟩ ⟨_, rfl⟩).mono ?_; rintro e w' ⟨rfl, rfl⟩)
  obtain ⟨w3, hw3⟩ : ∃ w3, ((w.alloc (.cells #[.int .i64 0] 3)).alloc (.cells #[.pointer (some ⟨D, 0, none⟩)] 29)).alloc (.cells #[.int .u32 (at_ : Nat)] 24) = w3 := ⟨_, rfl⟩
  have hsz : w3.heap.size = w.heap.size + 1 + 1 + 1 := by rw [← hw3]; simp
  have hB0 : Below w.heap.size w w3 := by rw [← hw3]; exact (hB1.alloc (by simp) _).alloc (by simp; omega) _
  have bn : w3.heap[w.heap.size]? = some (.cells #[.int .i64 0] 3 (0, 0)) := by
    rw [← hw3, Below.heap_alloc _ _ _ (by simp; omega), Below.heap_alloc _ _ _ (by simp)]
    exact heap_alloc_new _ _
  have bd : w3.heap[w.heap.size + 1]? = some (.cells #[.pointer (some ⟨D, 0, none⟩)] 29 (0, 0)) := by
    rw [← hw3, Below.heap_alloc _ _ _ (by simp)]
    have := heap_alloc_new (w.alloc (.cells #[.int .i64 0] 3)) (.cells #[.pointer (some ⟨D, 0, none⟩)] 29 (0, 0))
    rwa [World.size_alloc] at this
  have ba : w3.heap[w.heap.size + 1 + 1]? = some (.cells #[.int .u32 (at_ : Nat)] 24 (0, 0)) := by
    have := heap_alloc_new ((w.alloc (.cells #[.int .i64 0] 3)).alloc (.cells #[.pointer (some ⟨D, 0, none⟩)] 29)) (.cells #[.int .u32 (at_ : Nat)] 24 (0, 0))
    simp only [World.size_alloc] at this
    rw [← hw3]
    exact this
  simp only [hw3]
  refine wpIn_rangeFunc_ownF rfl h1 (gf := 25) (lb := #[.pointer (some ⟨w.heap.size + 1 + 1, 0, none⟩), .pointer (some ⟨w.heap.size + 1, 0, none⟩)]) rfl trivial (enters_of Try.func25 (by kernel_rfl) rfl)
    (elements_stops (m - 1) (by omega) (w.heap.size + 1 + 1) (w.heap.size + 1) w.heap.size D nb cap n at_ c kd nx hn hat hc hce hle hup w3 (by omega) (by omega) (by omega) (cell_of ba rfl) (cell_of bd rfl) (hD.below hB0))
    Kp.trans (Kp.put (by omega) (by omega) (by omega)) (Below.refl _ _) (fun _ => rfl)
    (fun pre W => (W.cell? ⟨w.heap.size, 0, none⟩ = some (.int .i64 (pre.length : Nat)) ∧ W.frozen? ⟨w.heap.size, 0, none⟩ = false) ∧ Below w.heap.size w W)
    (fun _ _ _ => False)
    (OwnFrom.and (Own.from (fun s A B row hs hg hr => ⟨cell_kept hs.1 hg hr, (frozen_kept hs.1 hg hr).trans hs.2⟩) _) (ownFrom_below (Nat.le_refl _) (by omega)))
    (fun _ _ _ _ _ hs _ _ => hs)
    ⟨⟨cell_of bn rfl, frozen_of bn⟩, hB0⟩
    (fun x => { tmps := #[.pointer (some ⟨D, 0, none⟩), .int .u32 (at_ : Nat), undef, undef, .int .i64 0, .pointer (some ⟨w.heap.size, 0, none⟩), .pointer (some ⟨D, 0, none⟩), .pointer (some ⟨D, 0, none⟩), .pointer (some ⟨D, 1, none⟩), .slice (some ⟨nb, 0, none⟩) n cap, .int .u32 (at_ : Nat), .pointer (some ⟨nb, at_ * 5, none⟩), .pointer (some ⟨nb, at_ * 5, none⟩), .int .u8 (kd at_), .bool false, undef, undef, undef, undef, undef, undef, undef, .pointer (some ⟨D, 0, none⟩), .int .u32 (at_ : Nat), .func (.func 25) #[] #[.pointer (some ⟨w.heap.size + 1 + 1, 0, none⟩), .pointer (some ⟨w.heap.size + 1, 0, none⟩)], .int .u32 (x : Nat), undef, undef, undef], defers := [] }) ?assign ?body ?done ?stop
  case assign =>
    intro l x W K hK
    gi_wp2
    simpa using hK
  case body =>
    rintro l pre x W ⟨⟨hc1, hf⟩, hB⟩ hlen
    have hpl : (pre ++ [x]).length = pre.length + 1 := by simp
    have hcm : c ≤ 65536 := hcc
    gi_wp2
    refine ⟨KeepsOthers.setCell _ _ _, ⟨(Below.refl w.heap.size W).setCell (p := ⟨w.heap.size, 0, none⟩) (Nat.le_refl _) _, fun b hb v hv => ?_⟩, ⟨?_, by rw [World.frozen?_setCell]; exact hf⟩, hB.setCell (p := ⟨w.heap.size, 0, none⟩) (Nat.le_refl _) _⟩
    · rw [← hv]
      exact World.cell?_of_block (Below.heap_setCell _ _ _ _ (by show b ≠ w.heap.size; omega))
    · rw [hpl]
      exact World.cell?_setCell_same' _ _ _ (by rw [hc1]; rfl)
  case done =>
    rintro D' ys W hD' rfl ⟨⟨hc1, _⟩, hB⟩ hK
    rw [upto_length] at hc1
    gi_wp2
    refine ⟨by simp, .inl ⟨_, _, rfl, run_takeDeferred hK, ?_⟩⟩
    exact ⟨_, results_tmp rfl _ _ _, rfl, hB.trans (belowK_b (w := w) (Nat.le_refl _) W D' _ _ (by omega) hK rfl rfl)⟩
  case stop =>
    rintro D' c pre W _ _ h _
    exact h.elim

set_option maxRecDepth 100000 in
set_option maxHeartbeats 2000000 in
/-- count at an object. -/
theorem countM_in (m : Nat) (hm : 3 ≤ m) (D nb cap n at_ c : Nat) (kd : Nat → Int) (nx : Nat → Nat) (w : World)
    (hn : n ≤ 65536) (hat : at_ < n) (hk6 : kd at_ = 6) (hc : ∀ j, j < c → mw nx at_ j < nx at_) (hce : mw nx at_ c = nx at_) (hle : nx at_ ≤ n) (hin : ∀ j, j < c → mw nx at_ j + 1 < n) (hup : ∀ i, i < n → i < nx i) (hcc : c ≤ 65536) (hD : DocAt w.heap.size w D nb cap n kd nx) :
    CallsIn Fence.wide m Try.prog 20 #[.pointer (some ⟨D, 0, none⟩), .int .u32 (at_ : Nat)] w fun e W' => e = .returned (.int .i64 (c : Nat)) ∧ Below w.heap.size w W' := by
  have h1 : 1 ≤ m := by omega
  have hB1 : Below w.heap.size w (w.alloc (.cells #[.int .i64 0] 3)) := (Below.refl _ w).alloc (Nat.le_refl _) _
  have g0 := (hD.below hB1).nodes
  have g1 := (hD.below hB1).kind at_ hat
  rw [hk6] at g1
  refine callsIn_of_wp_marks Try.func20 rfl trivial ?_ rfl
  simp only [Try.ntmps20, List.size_toArray, List.length_cons, List.length_nil, Nat.reduceAdd, Nat.reduceSub, Array.replicate_succ, Array.replicate_zero, List.push_toArray, List.append_toArray, List.nil_append, List.cons_append]
  gi_wp2_with (refine ⟨trivial, ?_⟩; gi_at_call 22; refine (members_in (m - 1) _ _ _ ⟨_, rfl⟩ ⟨_, rfl⟩).mono ?_; rintro e w' ⟨rfl, rfl⟩)
  obtain ⟨w3, hw3⟩ : ∃ w3, ((w.alloc (.cells #[.int .i64 0] 3)).alloc (.cells #[.pointer (some ⟨D, 0, none⟩)] 29)).alloc (.cells #[.int .u32 (at_ : Nat)] 24) = w3 := ⟨_, rfl⟩
  have hsz : w3.heap.size = w.heap.size + 1 + 1 + 1 := by rw [← hw3]; simp
  have hB0 : Below w.heap.size w w3 := by rw [← hw3]; exact (hB1.alloc (by simp) _).alloc (by simp; omega) _
  have bn : w3.heap[w.heap.size]? = some (.cells #[.int .i64 0] 3 (0, 0)) := by
    rw [← hw3, Below.heap_alloc _ _ _ (by simp; omega), Below.heap_alloc _ _ _ (by simp)]
    exact heap_alloc_new _ _
  have bd : w3.heap[w.heap.size + 1]? = some (.cells #[.pointer (some ⟨D, 0, none⟩)] 29 (0, 0)) := by
    rw [← hw3, Below.heap_alloc _ _ _ (by simp)]
    have := heap_alloc_new (w.alloc (.cells #[.int .i64 0] 3)) (.cells #[.pointer (some ⟨D, 0, none⟩)] 29 (0, 0))
    rwa [World.size_alloc] at this
  have ba : w3.heap[w.heap.size + 1 + 1]? = some (.cells #[.int .u32 (at_ : Nat)] 24 (0, 0)) := by
    have := heap_alloc_new ((w.alloc (.cells #[.int .i64 0] 3)).alloc (.cells #[.pointer (some ⟨D, 0, none⟩)] 29)) (.cells #[.int .u32 (at_ : Nat)] 24 (0, 0))
    simp only [World.size_alloc] at this
    rw [← hw3]
    exact this
  simp only [hw3]
  refine wpIn_rangeFunc_ownF rfl h1 (gf := 24) (lb := #[.pointer (some ⟨w.heap.size + 1 + 1, 0, none⟩), .pointer (some ⟨w.heap.size + 1, 0, none⟩)]) rfl trivial (enters_of Try.func24 (by kernel_rfl) rfl)
    (members_stops (m - 1) (by omega) (w.heap.size + 1 + 1) (w.heap.size + 1) w.heap.size D nb cap n at_ c kd nx hn hat hc hce hle hin hup w3 (by omega) (by omega) (by omega) (cell_of ba rfl) (cell_of bd rfl) (hD.below hB0))
    Kp.trans (Kp.put (by omega) (by omega) (by omega)) (Below.refl _ _) (fun _ => rfl)
    (fun pre W => (W.cell? ⟨w.heap.size, 0, none⟩ = some (.int .i64 (pre.length : Nat)) ∧ W.frozen? ⟨w.heap.size, 0, none⟩ = false) ∧ Below w.heap.size w W)
    (fun _ _ _ => False)
    (OwnFrom.and (Own.from (fun s A B row hs hg hr => ⟨cell_kept hs.1 hg hr, (frozen_kept hs.1 hg hr).trans hs.2⟩) _) (ownFrom_below (Nat.le_refl _) (by omega)))
    (fun _ _ _ _ _ hs _ _ => hs)
    ⟨⟨cell_of bn rfl, frozen_of bn⟩, hB0⟩
    (fun x => { tmps := #[.pointer (some ⟨D, 0, none⟩), .int .u32 (at_ : Nat), undef, undef, .int .i64 0, .pointer (some ⟨w.heap.size, 0, none⟩), .pointer (some ⟨D, 0, none⟩), .pointer (some ⟨D, 0, none⟩), .pointer (some ⟨D, 1, none⟩), .slice (some ⟨nb, 0, none⟩) n cap, .int .u32 (at_ : Nat), .pointer (some ⟨nb, at_ * 5, none⟩), .pointer (some ⟨nb, at_ * 5, none⟩), .int .u8 6, .bool true, .pointer (some ⟨D, 0, none⟩), .int .u32 (at_ : Nat), .func (.func 24) #[] #[.pointer (some ⟨w.heap.size + 1 + 1, 0, none⟩), .pointer (some ⟨w.heap.size + 1, 0, none⟩)], .int .u32 (x : Nat), undef, undef, undef, undef, undef, undef, undef, undef, undef, undef], defers := [] }) ?assign ?body ?done ?stop
  case assign =>
    intro l x W K hK
    gi_wp2
    simpa using hK
  case body =>
    rintro l pre x W ⟨⟨hc1, hf⟩, hB⟩ hlen
    have hpl : (pre ++ [x]).length = pre.length + 1 := by simp
    have hcm : c ≤ 65536 := hcc
    gi_wp2
    refine ⟨KeepsOthers.setCell _ _ _, ⟨(Below.refl w.heap.size W).setCell (p := ⟨w.heap.size, 0, none⟩) (Nat.le_refl _) _, fun b hb v hv => ?_⟩, ⟨?_, by rw [World.frozen?_setCell]; exact hf⟩, hB.setCell (p := ⟨w.heap.size, 0, none⟩) (Nat.le_refl _) _⟩
    · rw [← hv]
      exact World.cell?_of_block (Below.heap_setCell _ _ _ _ (by show b ≠ w.heap.size; omega))
    · rw [hpl]
      exact World.cell?_setCell_same' _ _ _ (by rw [hc1]; rfl)
  case done =>
    rintro D' ys W hD' rfl ⟨⟨hc1, _⟩, hB⟩ hK
    rw [upto_length] at hc1
    gi_wp2
    refine ⟨by simp, .inl ⟨_, _, rfl, run_takeDeferred hK, ?_⟩⟩
    exact ⟨_, results_tmp rfl _ _ _, rfl, hB.trans (belowK_b (w := w) (Nat.le_refl _) W D' _ _ (by omega) hK rfl rfl)⟩
  case stop =>
    rintro D' c pre W _ _ h _
    exact h.elim

end Go.Proofs.Qxb6603622a
