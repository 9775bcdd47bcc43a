import Derived.Test.Qxb6603622aLen
import Derived.Deep.AppendLies
import Derived.Deep.RegionWith
namespace Go.Proofs.Qxb6603622a
open Go.RowKit
set_option linter.unusedVariables false

theorem info54 : (Try.prog.info? 54).map (fun i => (i.zero, i.size, i.bytes)) = some (some (.agg #[.int .u8 0, .bool false, .int .u32 0, .int .u32 0, .int .u32 0]), 5, 16) := by kernel_rfl

/-- The slice at 'a' holds f 0, .., f (n - 1). -/
def FAt (f : Nat → Value) (w : World) (a : Option Addr) (n : Nat) : Prop :=
  0 < n → ∃ b off, a = some ⟨b, off, none⟩ ∧ ∀ i, i < n → w.cell? ⟨b, off + i, none⟩ = some (f i)
theorem hcell_below {w w' : World} {p : Addr} {v : Value} (hb : Below w.heap.size w w') (h : w.cell? p = some v) : w'.cell? p = some v := by
  rw [hb.cell (World.block_lt_of_cell? w p h)]; exact h
theorem FAt.below {f : Nat → Value} {w w' : World} {a : Option Addr} {n : Nat} (h : FAt f w a n) (hb : Below w.heap.size w w') : FAt f w' a n := by
  intro h0
  obtain ⟨b, off, ha, hc⟩ := h h0
  exact ⟨b, off, ha, fun i hi => hcell_below hb (hc i hi)⟩

def nodeC (a : Int) (b : Nat) : List Value := [.int .u8 a, .bool false, .int .u32 0, .int .u32 0, .int .u32 (b : Nat)]
def nodesL (kd : Nat → Int) (nx : Nat → Nat) : Nat → List Value
  | 0 => []
  | k + 1 => nodesL kd nx k ++ nodeC (kd k) (nx k)

/-- The document in block D, its row of nodes the call's own (from B on). -/
structure DocOwn (B D : Nat) (W : World) (k : Nat) (xs : List Value) : Prop where
  le : B ≤ D
  ex : ∃ v, W.heap[D]? = some (.cells #[.string ⟨#[]⟩, v] 49 (0, 0)) ∧ W.ownsRow B 54 5 v k xs

theorem DocOwn.drew {B D : Nat} {W : World} {k : Nat} {xs : List Value} (h : DocOwn B D W k xs) : DocOwn B D W.drew k xs := ⟨h.le, h.ex⟩
theorem own_ne {W : World} {B : Nat} {v : Value} {n : Nat} {xs : List Value} {b : Nat} {cs : Array Value} {fr : Nat × Nat} (hown : W.ownsRow B 54 5 v n xs) (hb : W.heap[b]? = some (.cells cs 49 fr)) : v.ownBlock ≠ some b := by
  rcases hown.2 with ⟨rfl, _⟩ | ⟨g, cap, cur, rfl, _, hg, _⟩
  · simp [Value.ownBlock]
  · intro h
    simp only [Value.ownBlock, Option.some.injEq] at h
    subst h
    rw [hg] at hb
    simp only [Option.some.injEq, Obj.cells.injEq] at hb
    exact absurd hb.2.1 (by decide)

theorem cells_new (w : World) (vs : List Value) (t : TypeId) (j : Nat) (u : Value) (h : vs[j]? = some u) : (w.alloc (.cells vs.toArray t)).cell? ((⟨w.heap.size, 0, none⟩ : Addr).add j) = some u := by
  have hb : (w.alloc (.cells vs.toArray t)).heap[w.heap.size]? = some (.cells vs.toArray t (0, 0)) := heap_alloc_new _ _
  have : ((⟨w.heap.size, 0, none⟩ : Addr).add j) = ⟨w.heap.size, j, none⟩ := by unfold Addr.add; split <;> simp_all
  rw [this]
  exact cell_of hb (by simpa using h)

set_option maxHeartbeats 1000000 in
theorem newDoc (w : World) : Calls Try.prog 19 #[.string ⟨#[]⟩] w fun e w' => e = .returned (.pointer (some ⟨w.heap.size, 0, none⟩)) ∧ w' = w.alloc (.cells #[.string ⟨#[]⟩, .slice none 0 0] 49) := by
  go_enter Try.func19, Try.ntmps19
  go_wp2_with fail
  go_ret
  exact ⟨rfl, rfl⟩

theorem doc_grown {W w3 : World} {B D k : Nat} {v : Value} {xs : List Value} {o : Obj} (hv : W.heap[D]? = some (.cells #[.string ⟨#[]⟩, v] 49 (0, 0))) (hown : W.ownsRow B 54 5 v k xs) (hB : B ≤ W.heap.size) (hgrow : (W.alloc o).grownBy w3 v.ownBlock) :
    w3.heap[D]? = some (.cells #[.string ⟨#[]⟩, v] 49 (0, 0)) ∧ w3.cell? ⟨D, 1, none⟩ = some v ∧ w3.frozen? ⟨D, 1, none⟩ = false ∧ Below B W w3 := by
  have hvlt : D < W.heap.size := (Array.getElem?_eq_some_iff.1 hv).1
  have hne := own_ne hown hv
  have hv3 : w3.heap[D]? = some (.cells #[.string ⟨#[]⟩, v] 49 (0, 0)) := by
    rw [hgrow.block D (by simp; omega) (fun e => hne e.symm), Below.heap_alloc _ _ _ hvlt]; exact hv
  refine ⟨hv3, cell_of (j := 1) hv3 rfl, frozen_of hv3, ((Below.refl B W).alloc hB _).grown hgrow (by simp; omega) (fun r hr => ?_)⟩
  rcases hown.2 with ⟨rfl, _⟩ | ⟨g', cap', cur, rfl, hbg, _⟩
  · simp [Value.ownBlock] at hr
  · simp only [Value.ownBlock, Option.some.injEq] at hr
    omega

set_option maxHeartbeats 1000000 in
theorem addNode (W : World) (B D k : Nat) (xs : List Value) (a : Int) (b : Nat) (hd : DocOwn B D W k xs) (hk : k ≤ 65536) (hB : B ≤ W.heap.size) :
    Calls Try.prog 15 #[.pointer (some ⟨D, 0, none⟩), .int .u8 a, .int .u32 (b : Nat)] W fun e W' => e = .returned (.tuple #[]) ∧ DocOwn B D W' (k + 1) (xs ++ nodeC a b) ∧ Below B W W' := by
  obtain ⟨i0, hi, hz0, hz1, hz2⟩ := info_parts info54
  obtain ⟨hle, v, hv, hown⟩ := hd
  have q1 := cell_of (j := 1) hv rfl
  go_enter Try.func15, Try.ntmps15
  go_wp2_with (at_builtin; refine wpList_append_lies _ rfl _ _ 47 rfl B 54 i0 _ 5 16 Try.underlying47 hi hz0 hz1 hz2 rfl (by decide) v k xs rfl (by exact hown.alloc _) ⟨W.heap.size, 0, none⟩ 1 1 (nodeC a b) rfl rfl (cells_new W (nodeC a b) 54) (by simp [nodeC, Value.oneCell']) (by decide) (by unfold maxLen; omega) (by omega) (by simp; omega) (W.heap.size + 1) (by simp) ?_; intro g cp w3 hown3 hgrow hat hl3; obtain ⟨hv3, r1, rf, hb3⟩ := doc_grown hv hown hB hgrow; clear hat hgrow)
  go_end0
  refine ⟨rfl, ⟨hle, _, heap_setCell_same w3 D 1 _ 49 _ hv3, ?_⟩, hb3.setCell (p := ⟨D, 1, none⟩) hle _⟩
  exact hown3.kept (row := some D) ⟨rfl, rfl, rfl, by simp [World.setCell], fun j _ hj => Below.heap_setCell _ _ _ _ (fun e => hj (by simp [e]))⟩ (Or.inr (own_ne hown3 hv3))

theorem nodesL_length (kd : Nat → Int) (nx : Nat → Nat) : ∀ k, (nodesL kd nx k).length = k * 5
  | 0 => rfl
  | k + 1 => by rw [nodesL, List.length_append, nodesL_length kd nx k]; simp [nodeC]; omega
theorem nodesL_get (kd : Nat → Int) (nx : Nat → Nat) : ∀ k i, i < k → (nodesL kd nx k)[i * 5]? = some (.int .u8 (kd i)) ∧ (nodesL kd nx k)[i * 5 + 4]? = some (.int .u32 (nx i : Nat))
  | 0, i, h => by omega
  | k + 1, i, h => by
    have hl := nodesL_length kd nx k
    rw [nodesL]
    by_cases hik : i < k
    · obtain ⟨x, y⟩ := nodesL_get kd nx k i hik
      exact ⟨by rw [List.getElem?_append_left (by omega)]; exact x, by rw [List.getElem?_append_left (by omega)]; exact y⟩
    · obtain rfl : i = k := by omega
      refine ⟨?_, ?_⟩
      · rw [List.getElem?_append_right (by omega), hl, Nat.sub_self]; rfl
      · rw [List.getElem?_append_right (by omega), hl, show i * 5 + 4 - i * 5 = 4 by omega]; rfl
theorem DocOwn.doc {B D : Nat} {W : World} {n : Nat} {kd : Nat → Int} {nx : Nat → Nat} (h : DocOwn B D W n (nodesL kd nx n)) (hn : 0 < n) : ∃ nb cap, DocAt W.heap.size W D nb cap n kd nx := by
  obtain ⟨hle, v, hv, hown⟩ := h
  have hvlt : D < W.heap.size := (Array.getElem?_eq_some_iff.1 hv).1
  rcases hown.2 with ⟨_, h0⟩ | ⟨g, cap, cur, rfl, hbg, hg, hnc, hcm, hcs, htake⟩
  · omega
  · have hget : ∀ j u, (nodesL kd nx n)[j]? = some u → W.cell? ⟨g, j, none⟩ = some u := fun j u hu => by
      refine cell_of hg ?_
      rw [← htake, List.getElem?_take] at hu
      split at hu
      · simpa using hu
      · cases hu
    exact ⟨g, cap, hvlt, (Array.getElem?_eq_some_iff.1 hg).1, cell_of (j := 1) hv rfl, fun i hi => hget _ _ (nodesL_get kd nx n i hi).1, fun i hi => hget _ _ (nodesL_get kd nx n i hi).2⟩

set_option maxHeartbeats 1000000 in
theorem buildDoc (w : World) (ak an : Option Addr) (ck cn n : Nat) (kd : Nat → Int) (nx : Nat → Nat) (hk : FAt (fun i => .int .u8 (kd i)) w ak n) (hx : FAt (fun i => .int .u32 (nx i : Nat)) w an n) (h0 : 0 < n) (hn : n ≤ 65536) :
    Calls Try.prog 8 #[.slice ak n ck, .slice an n cn] w fun e w' => ∃ D nb cap, e = .returned (.pointer (some ⟨D, 0, none⟩)) ∧ DocAt w'.heap.size w' D nb cap n kd nx ∧ Below w.heap.size w w' := by
  obtain ⟨b0, o0, rfl, hk'⟩ := hk h0
  obtain ⟨b1, o1, rfl, hx'⟩ := hx h0
  clear hk hx
  have HK := (show Hid _ from hk'); clear hk'
  have HX := (show Hid _ from hx'); clear hx'
  go_enter Try.func8, Try.ntmps8
  go_wp2_with (go_at_call 19; refine (newDoc w).mono ?_; rintro e w1 ⟨rfl, rfl⟩)
  go_loopw [6] (fun i wr => ∃ k : Nat, k ≤ n ∧ i = .int .i64 k ∧ Below w.heap.size w wr ∧ DocOwn w.heap.size w.heap.size wr k (nodesL kd nx k)) (fun i _ => n - (intOf i).toNat)
  case atStart => exact ⟨0, Nat.zero_le _, rfl, (Below.refl _ w).alloc (Nat.le_refl _) _, Nat.le_refl _, _, heap_alloc_new _ _, World.ownsRow_nil _ _ _ _⟩
  case round =>
    obtain ⟨k, hk, rfl, hb, hd⟩ := hrel
    have hbs := hb.size
    by_cases hlt : k < n
    · have c0 := hcell_below hb (HK.out k hlt)
      have c1 := hcell_below hb (HX.out k hlt)
      have HD := (show Hid _ from hd.drew); clear hd
      go_upto_region 5 with fail
      go_region_with (go_at_call 15; refine (addNode _ w.heap.size w.heap.size k (nodesL kd nx k) (kd k) (nx k) HD.out (by omega) (by exact hbs)).mono ?_; rintro e w2 ⟨rfl, hd2, hb2⟩)
      all_goals
        go_wp2_with fail
        go_roundw
        case rel => exact ⟨k + 1, by omega, by go_num, hb.drew.trans hb2, hd2⟩
        case measure => simp [intOf]; omega
    · obtain rfl : k = n := by omega
      obtain ⟨nb, cap, hD⟩ := hd.doc h0
      go_wp2_with fail
      go_ret
      exact ⟨_, nb, cap, rfl, hD, hb⟩

end Go.Proofs.Qxb6603622a
