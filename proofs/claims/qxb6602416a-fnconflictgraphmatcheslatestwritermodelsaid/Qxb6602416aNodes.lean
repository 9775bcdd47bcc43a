import Derived.Test.Qxb6602416aMap
import Derived.Test.Qxb6602416aOnce
namespace Go.Proofs.Qxb6602416a
open Go.RowKit
set_option linter.unusedVariables false

/-- The map 'node' behind the committed IDs 'ids'. -/
def nmapAux : Nat → List (Int × Value) → List Int → List (Int × Value)
  | _, l, [] => l
  | n, l, x :: r => nmapAux (n + 1) (mput l x (.int .i64 n)) r
def nmap (ids : List Int) : List (Int × Value) := nmapAux 0 [] ids
theorem nmapAux_snoc (r : List Int) (x : Int) : ∀ n l, nmapAux n l (r ++ [x]) = mput (nmapAux n l r) x (.int .i64 ((n + r.length : Nat) : Int)) := by
  induction r with
  | nil => intro n l; simp [nmapAux]
  | cons y r ih =>
    intro n l
    simp only [List.cons_append, nmapAux, ih, List.length_cons]
    rw [show n + 1 + r.length = n + (r.length + 1) by omega]
theorem nmap_snoc (r : List Int) (x : Int) : nmap (r ++ [x]) = mput (nmap r) x (.int .i64 (r.length : Int)) := by simp [nmap, nmapAux_snoc]

/-- The txns of a history in memory, at block T. -/
def TxnsAt (w : World) (T : Nat) (ts : List (Int × Int)) : Prop :=
  ∀ i, i < ts.length → w.cell? ⟨T, i * 2, none⟩ = some (.int .i64 (ts.getD i (0, 0)).1) ∧ w.cell? ⟨T, i * 2 + 1, none⟩ = some (.int .u8 (ts.getD i (0, 0)).2)

theorem cell0_of_two {w : World} {b : Nat} {x y : Value} {e : TypeId} (h : w.heap[b]? = some (.cells #[x, y] e (0, 0))) : w.cell? ⟨b, 0, none⟩ = some x := by simp [World.cell?, h]
theorem cell1_of_two {w : World} {b : Nat} {x y : Value} {e : TypeId} (h : w.heap[b]? = some (.cells #[x, y] e (0, 0))) : w.cell? ⟨b, 1, none⟩ = some y := by simp [World.cell?, h]
theorem free_of_cells {w : World} {b j : Nat} {c : Array Value} {e : TypeId} (h : w.heap[b]? = some (.cells c e (0, 0))) : w.frozen? ⟨b, j, none⟩ = false := by simp [World.frozen?, h]
theorem cell_new_grown {w w1 : World} {x y : Value} {e : TypeId} {m : Nat} (h : (w.alloc (.cells #[x, y] e)).grownBy w1 (some m)) (hm : m < w.heap.size) : w1.cell? ⟨w.heap.size, 0, none⟩ = some x := by
  refine h.cell (by simp) (fun e' => ?_)
  simp only [Option.some.injEq] at e'
  omega
theorem nodes_keep {own : Nat → Tag} {w1 w2 : World} {V : Nat} {o : Obj} {v' : Value} {xs : List Int} (hV : w1.heap[V]? = some o) (hV2 : own V = (7, 2))
    (hp : ∃ own', Fr (fun u => u = (7, 3)) own own' w1 w2 ∧ RowT own' w2 (7, 3) v' xs) : w2.heap[V]? = some o := by
  obtain ⟨own', F, _⟩ := hp
  exact F.heap hV (by rw [hV2]; decide)

/-- What holds at the head of each round of committedNodes' loop; B: the heap's size when the call began. -/
def NodesInv (B : Nat) (w wr : World) (ids : List Int) (own : Nat → Tag) (v : Value) : Prop :=
  Fr (fun t => t.1 = 7) (fun _ => (0, 0)) own w wr ∧ own B = (7, 0) ∧ own (B + 1) = (7, 1) ∧ own (B + 1 + 1) = (7, 2) ∧
   wr.heap[B]? = some (.cells #[.slice none 0 0, .map none] 63 (0, 0)) ∧ MapAt (Value.int .i64) wr (B + 1) (nmap ids) ∧ wr.heap[B + 1 + 1]? = some (.cells #[v, .map (some (B + 1))] 63 (0, 0)) ∧ RowT own wr (7, 3) v ids

theorem nodesInv_start (w : World) : ∃ own, NodesInv w.heap.size w (((w.alloc (.cells #[.slice none 0 0, .map none] 63)).alloc (.map #[] 0)).alloc (.cells #[.slice none 0 0, .map (some (w.heap.size + 1))] 63)) [] own (.slice none 0 0) := by
  have F := (((Fr.refl (fun t => t.1 = 7) (fun _ => ((0, 0) : Tag)) w).alloc (.cells #[.slice none 0 0, .map none] 63) (7, 0)).alloc (.map #[] 0) (7, 1)).alloc (.cells #[.slice none 0 0, .map (some (w.heap.size + 1))] 63) (7, 2)
  refine ⟨_, F, ?_, ?_, ?_, ?_, ?_, ?_, RowT.nil _ _ _⟩
  · simp; omega
  · simp
  · simp
  · rw [Below.heap_alloc _ _ _ (by simp; omega), Below.heap_alloc _ _ _ (by simp)]
    exact heap_alloc_new w _
  · refine ⟨#[], 0, ?_, rfl⟩
    rw [Below.heap_alloc _ _ _ (by simp)]
    have := heap_alloc_new (w.alloc (.cells #[.slice none 0 0, .map none] 63)) (.map #[] 0)
    simpa using this
  · have := heap_alloc_new ((w.alloc (.cells #[.slice none 0 0, .map none] 63)).alloc (.map #[] 0)) (.cells #[.slice none 0 0, .map (some (w.heap.size + 1))] 63)
    simpa using this

theorem nodesInv_hit {B : Nat} {w wr w1 w2 : World} {own : Nat → Tag} {ids : List Int} {x : Int} {v v' : Value} (h : NodesInv B w wr ids own v) (F1 : Fr (fun u => u = (7, 1)) own own wr w1)
    (hM1 : MapAt (Value.int .i64) w1 (B + 1) (mput (nmap ids) x (.int .i64 (ids.length : Int)))) (hp : ∃ own', Fr (fun u => u = (7, 3)) own own' w1 w2 ∧ RowT own' w2 (7, 3) v' (ids ++ [x])) :
    ∃ own', NodesInv B w (w2.setCell ⟨B + 1 + 1, 0, none⟩ v') (ids ++ [x]) own' v' := by
  obtain ⟨F, o0, o1, o2, hR, hM, hV, hv⟩ := h
  obtain ⟨own', F2, hv2⟩ := hp
  have hR1 := F1.heap hR (by rw [o0]; decide)
  have hR2 := F2.heap hR1 (by rw [o0]; decide)
  have hV1 := F1.heap hV (by rw [o2]; decide)
  have hV2 := F2.heap hV1 (by rw [o2]; decide)
  have o0' : own' B = (7, 0) := by rw [F2.tags B (lt_of_heap hR1), o0]
  have o1' : own' (B + 1) = (7, 1) := by rw [F2.tags _ hM1.lt, o1]
  have o2' : own' (B + 1 + 1) = (7, 2) := by rw [F2.tags _ (lt_of_heap hV1), o2]
  have F3 : Fr (fun u => u = (7, 2)) own' own' w2 (w2.setCell ⟨B + 1 + 1, 0, none⟩ v') := (Fr.refl _ _ _).setCell _ _ o2'
  refine ⟨own', ((F.trans (F1.mono (fun t ht => by rw [ht]))).trans (F2.mono (fun t ht => by rw [ht]))).trans (F3.mono (fun t ht => by rw [ht])), o0', o1', o2', F3.heap hR2 (by rw [o0']; decide), ?_, ?_, hv2.fr F3 (by decide)⟩
  · rw [nmap_snoc]
    exact (hM1.fr F2 (by rw [o1]; decide)).fr F3 (by rw [o1']; decide)
  · have := heap_setCell_same w2 (B + 1 + 1) 0 _ 63 v' hV2
    simpa using this

set_option maxHeartbeats 1000000 in
theorem committedNodes_any (w : World) (Hh T : Nat) (ts : List (Int × Int)) (hT : w.cell? ⟨Hh, 1, none⟩ = some (.slice (some ⟨T, 0, none⟩) ts.length ts.length)) (hts : TxnsAt w T ts) (hl : ts.length ≤ 4096) :
    Calls Try.prog 27 #[.pointer (some ⟨Hh, 0, none⟩)] w fun e w' =>
      ∃ a cap M, e = .returned (.agg #[.slice a (Plain.cids ts).length cap, .map (some M)]) ∧ CellsAt (Value.int .i64) 0 w' a (Plain.cids ts) ∧ MapAt (Value.int .i64) w' M (nmap (Plain.cids ts)) ∧ Below w.heap.size w w' := by
  obtain ⟨i0, hi, hz0, hz1, hz2⟩ := info_parts Try.info3
  have hmm := @run_makeMap Try.prog
  have hHl : Hh < w.heap.size := World.block_lt_of_cell? w _ hT
  have hHl1 : Hh < w.heap.size + 1 := by omega
  have hHl2 : Hh < w.heap.size + 1 + 1 := by omega
  go_enter Try.func27, Try.ntmps27
  go_wp2
  obtain ⟨own0, hst⟩ := nodesInv_start w
  go_loopw [13] (fun i wr => ∃ k : Nat, k ≤ ts.length ∧ i = .int .i64 k ∧ ∃ own v, NodesInv w.heap.size w wr (Plain.cids (ts.take k)) own v) (fun i _ => ts.length - (intOf i).toNat)
  case atStart => exact ⟨0, Nat.zero_le _, rfl, own0, _, hst⟩
  case round =>
    obtain ⟨k, hk, rfl, own, v, F, o0, o1, o2, hR, hM, hV, hv⟩ := hrel
    obtain ⟨a, cap, rfl, hca⟩ := hv.form
    have hV0 : wr.cell? ⟨w.heap.size + 1 + 1, 0, none⟩ = some (.slice a (Plain.cids (ts.take k)).length cap) := by simp [World.cell?, hV]
    have hV1 : wr.cell? ⟨w.heap.size + 1 + 1, 1, none⟩ = some (.map (some (w.heap.size + 1))) := by simp [World.cell?, hV]
    by_cases hlt : k < ts.length
    · obtain ⟨hc1, hc2⟩ := hts k hlt
      have hc1' := F.cell hc1 (by simp)
      have hc2' := F.cell hc2 (by simp)
      clear hc1 hc2
      obtain ⟨x, st, hxs⟩ : ∃ x st, ts.getD k (0, 0) = (x, st) := ⟨_, _, rfl⟩
      rw [hxs] at hc1' hc2'
      have hstep := Plain.cids_take_succ ts k hlt
      rw [hxs] at hstep
      have HS := (show Hid _ from hstep); clear hstep hxs
      have hVl := lt_of_heap hV
      by_cases hs : (st == 1) = true
      · have HS2 : Hid (Plain.cids (ts.take (k + 1)) = Plain.cids (ts.take k) ++ [x]) := by have := HS.out; rw [if_pos (by simpa using hs)] at this; exact this
        have hkl : (Plain.cids (ts.take k)).length ≤ 4096 := by have := Plain.cids_le (ts.take k); simp at this; omega
        have hVl2 : w.heap.size + 1 + 1 < wr.heap.size + 1 := by omega
        go_wp2_with (first | (at_mapUpdate; refine wpList_mput rfl _ _ _ 33 rfl 3 (key_int Try.underlying3) Try.underlying33 (w.heap.size + 1) (nmap (Plain.cids (ts.take k))) rfl (by exact hM.fr (may := fun _ => False) ((Fr.refl _ own _).alloc0 _) (fun x => x)) x (.int .i64 ((Plain.cids (ts.take k)).length : Int)) rfl rfl ?_; intro w1 hM1 hg1; have F1 : Fr (fun u => u = (7, 1)) own own wr w1 := ((Fr.refl _ own wr).alloc0 _).trans (grown_fr hg1 o1); have hV' := F1.heap hV (by rw [o2]; decide); have hV0' := cell0_of_two hV'; have hx1 : w1.cell? ⟨wr.heap.size, 0, none⟩ = some (.int .i64 x) := cell_new_grown hg1 (by omega); have hv1 := hv.fr F1 (by decide); have hV'l := lt_of_heap hV') | (at_builtin; refine wpList_append_lies _ rfl _ _ 22 rfl 0 3 i0 (.int .i64 0) 1 8 Try.underlying22 hi hz0 hz1 hz2 rfl (by decide) (.slice a (Plain.cids (ts.take k)).length cap) (Plain.cids (ts.take k)).length ((Plain.cids (ts.take k)).map (Value.int .i64)) rfl (by exact hv1.1.alloc _) ⟨w1.heap.size, 0, none⟩ 1 1 [.int .i64 x] rfl rfl (by exact cell_one_new _ _ _) (ints_oneCell .i64 [x]) (by decide) (by unfold maxLen; omega) (by omega) (Nat.zero_le _) (w1.heap.size + 1) (by simp) ?_; intro g cp w2 hown hgrow hat hlt2; have hp := hv1.push ((Fr.refl _ _ _).alloc0 _) (by exact hown) (by exact hgrow) (by simpa using hat); have hV2 := nodes_keep hV' o2 hp; have hV02 := cell0_of_two hV2; have hVf2 := free_of_cells (j := 0) hV2))
        have hfin := nodesInv_hit ⟨F, o0, o1, o2, hR, hM, hV, hv⟩ F1 hM1 hp
        rw [← HS2.out] at hfin
        obtain ⟨own', hfin⟩ := hfin
        go_roundw
        case rel => exact ⟨k + 1, by omega, by go_num, own', _, hfin⟩
        case measure => simp [intOf]; omega
      · have hs' : (st == 1) = false := eq_false_of_ne_true hs
        clear hs
        go_wp2_with fail
        go_roundw
        case rel => 
          rw [if_neg (by simpa using hs'), List.append_nil] at HS
          exact ⟨k + 1, by omega, by go_num, own, _, by rw [HS.out]; exact ⟨F.alloc0 _, o0, o1, o2, by rw [Below.heap_alloc _ _ _ (lt_of_heap hR)]; exact hR, hM.fr (may := fun _ => False) ((Fr.refl _ own _).alloc0 _) (fun x => x), by rw [Below.heap_alloc _ _ _ hVl]; exact hV, hv.fr (may := fun _ => False) ((Fr.refl _ own _).alloc0 _) (fun x => x)⟩⟩
        case measure => simp [intOf]; omega
    · have hR0 : wr.cell? ⟨w.heap.size, 0, none⟩ = some (.slice none 0 0) := by simp [World.cell?, hR]
      have hR1 : wr.cell? ⟨w.heap.size, 1, none⟩ = some (.map none) := by simp [World.cell?, hR]
      have hRf : ∀ j, wr.frozen? ⟨w.heap.size, j, none⟩ = false := fun j => by simp [World.frozen?, hR]
      go_wp2
      have hke : ts.take k = ts := List.take_of_length_le (by omega)
      rw [hke] at hM hv ⊢
      refine bodyPost_ret (v := .agg #[.slice a (Plain.cids ts).length cap, .map (some (w.heap.size + 1))]) (by simp [results, Try.results27, go_sem, hR0, hR1]) rfl ?_
      have F0 : ∀ x y, Fr (fun u => u = (7, 0)) own own wr ((wr.setCell ⟨w.heap.size, 0, none⟩ x).setCell ⟨w.heap.size, 1, none⟩ y) := fun x y => ((Fr.refl _ own wr).setCell _ _ o0).setCell _ _ o0
      exact ⟨a, cap, w.heap.size + 1, rfl, (hv.fr (F0 _ _) (by decide)).cells, hM.fr (F0 _ _) (by rw [o1]; decide), (F.trans ((F0 _ _).mono (fun t ht => by rw [ht]))).below (Nat.le_refl _) (fun b hb => by simp)⟩

end Go.Proofs.Qxb6602416a
