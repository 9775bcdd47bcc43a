import Derived.Test.Qxb6602416aGInv
namespace Go.Proofs.Qxb6602416a
open Go.RowKit
set_option linter.unusedVariables false

theorem grown_none {w w' : World} {b : Nat} {o : Obj} (h : w.grownBy w' none) (hb : w.heap[b]? = some o) : w'.heap[b]? = some o := by
  rw [h.block b (lt_of_heap hb) (by simp)]; exact hb
theorem cell_of_cells {w : World} {b j : Nat} {c : Array Value} {e : TypeId} {v : Value} (h : w.heap[b]? = some (.cells c e (0, 0))) (hv : c[j]? = some v) : w.cell? ⟨b, j, none⟩ = some v := by simp [World.cell?, h, hv]
theorem stored_heap {w : World} {b j : Nat} {c c' : Array Value} {e : TypeId} {v : Value} (h : w.heap[b]? = some (.cells c e (0, 0))) (hc : c.setIfInBounds j v = c') : (w.setCell ⟨b, j, none⟩ v).heap[b]? = some (.cells c' e (0, 0)) := by
  rw [heap_setCell_same w b j c e v h, hc]

/-- A new slice of n nil slices. -/
theorem made_rows {w : World} {S n : Nat} (h : w.ownsRow 0 22 1 (.slice (some ⟨S, 0, none⟩) n n) n (madeCells (Value.slice none 0 0).cells (n * 1)).toList) :
    ∃ cs : Array Value, w.heap[S]? = some (.cells cs 22 (0, 0)) ∧ cs.size = n ∧ ∀ i, i < n → cs[i]? = some (.slice none 0 0) := by
  have h2 := h.2
  rcases h2 with ⟨h', _⟩ | ⟨g', cap', cur, h', _, hg, _, _, hs, ht⟩
  · simp at h'
  · simp only [Value.slice.injEq, Option.some.injEq, Addr.mk.injEq, and_true, true_and] at h'
    obtain ⟨rfl, rfl⟩ := h'
    refine ⟨cur, hg, by simpa using hs, fun i hi => ?_⟩
    have e1 : (madeCells (Value.slice none 0 0).cells (n * 1)).toList = List.replicate n (.slice none 0 0) := by rw [Nat.mul_one]; exact toList_madeCells_one _ n
    rw [e1] at ht
    have e2 : (cur.toList.take (n * 1))[i]? = (List.replicate n (Value.slice none 0 0))[i]? := by rw [ht]
    rw [List.getElem?_take, if_pos (by omega)] at e2
    simpa [hi] using e2

theorem rows2_made {own : Nat → Tag} {w : World} {c S n : Nat} {f : Nat → List Int} (hf : ∀ i, f i = []) (ho : own S = (1, c)) (h : ∃ cs : Array Value, w.heap[S]? = some (.cells cs 22 (0, 0)) ∧ cs.size = n ∧ ∀ i, i < n → cs[i]? = some (.slice none 0 0)) : Rows2 own w c S n f := by
  obtain ⟨cs, h1, h2, h3⟩ := h
  exact ⟨ho, cs, h1, h2, fun i hi => ⟨_, h3 i hi, by rw [hf]; exact RowT.nil _ _ _⟩⟩

theorem cg_start {w w1 w2 w3 : World} {M n : Nat} {ids : List Int} {v0 : Value} (hn : ids.length = n) (hb1 : Below w.heap.size w w1) (hM : MapAt (Value.int .i64) w1 M (nmap ids))
    (hS : w2.ownsRow 0 22 1 (.slice (some ⟨(w1.alloc (.cells #[v0, .map (some M), .slice none 0 0, .slice none 0 0] 65)).heap.size, 0, none⟩) n n) n (madeCells (Value.slice none 0 0).cells (n * 1)).toList)
    (hgS : (w1.alloc (.cells #[v0, .map (some M), .slice none 0 0, .slice none 0 0] 65)).grownBy w2 none)
    (hP : w3.ownsRow 0 22 1 (.slice (some ⟨(w2.setCell ⟨w1.heap.size, 2, none⟩ (.slice (some ⟨w1.heap.size + 1, 0, none⟩) n n)).heap.size, 0, none⟩) n n) n (madeCells (Value.slice none 0 0).cells (n * 1)).toList)
    (hgP : (w2.setCell ⟨w1.heap.size, 2, none⟩ (.slice (some ⟨w1.heap.size + 1, 0, none⟩) n n)).grownBy w3 none) :
    ∃ own adr, CG w ((w3.setCell ⟨w1.heap.size, 3, none⟩ (.slice (some ⟨w2.heap.size, 0, none⟩) n n)).alloc (.map #[] 0)) w1.heap.size (w1.heap.size + 1) w2.heap.size w3.heap.size M ids v0 own [] adr Plain.GS.zero := by
  have e1 : (w1.alloc (.cells #[v0, .map (some M), .slice none 0 0, .slice none 0 0] 65)).heap.size = w1.heap.size + 1 := by simp
  have e2 : (w2.setCell ⟨w1.heap.size, 2, none⟩ (.slice (some ⟨w1.heap.size + 1, 0, none⟩) n n)).heap.size = w2.heap.size := by simp [World.setCell]
  rw [e1] at hS
  rw [e2] at hP
  have rS := made_rows hS
  have rP := made_rows hP
  have hSl : w1.heap.size + 1 < w2.heap.size := by obtain ⟨cs, h1, _⟩ := rS; exact lt_of_heap h1
  have hPl : w2.heap.size < w3.heap.size := by obtain ⟨cs, h1, _⟩ := rP; exact lt_of_heap h1
  have hbs := hb1.size
  have gG2 := grown_none hgS (heap_alloc_new w1 _)
  have gG3 := grown_none hgP (stored_heap gG2 rfl)
  have gG4 := stored_heap (v := .slice (some ⟨w2.heap.size, 0, none⟩) n n) (j := 3) gG3 rfl
  -- an old block, below G
  have old : ∀ b, b < w1.heap.size → ((w3.setCell ⟨w1.heap.size, 3, none⟩ (.slice (some ⟨w2.heap.size, 0, none⟩) n n)).alloc (.map #[] 0)).heap[b]? = w1.heap[b]? := fun b hb => by
    rw [Below.heap_alloc _ _ _ (by simp [World.setCell]; omega), Below.heap_setCell _ _ _ _ (by simp; omega), hgP.block b (by simp [World.setCell]; omega) (by simp), Below.heap_setCell _ _ _ _ (by simp; omega), hgS.block b (by simp; omega) (by simp), Below.heap_alloc _ _ _ hb]
  refine ⟨fun b => if b = w1.heap.size + 1 then (1, 0) else if b = w2.heap.size then (1, 1) else if b = w3.heap.size then (4, 0) else (0, 0), fun _ => 0, ?_⟩
  have hMl := hM.lt
  refine ⟨⟨?_, ?_, ?_, ?_, fun b hb => ?_, fun b hb _ => ?_⟩, ⟨?_, ?_, rows2_made (fun i => rfl) (by simp) ?_, rows2_made (fun i => rfl) ?_ ?_⟩, ?_, ?_, ?_, ?_, ⟨fun s hs => rfl, (fun s a hs => by cases hs), (fun s s' a a' hs => by cases hs)⟩⟩
  · exact hgP.os.trans (hgS.os.trans hb1.os)
  · exact hgP.tape.trans (hgS.tape.trans hb1.tape)
  · exact hgP.output.trans (hgS.output.trans hb1.output)
  · simp [World.setCell]; omega
  · rw [if_neg (by omega), if_neg (by omega), if_neg (by omega)]
  · rw [old b (by omega), hb1.block b hb]
  · rw [Below.heap_alloc _ _ _ (by simp [World.setCell]; omega)]
    rw [hn]
    exact gG4
  · rw [if_neg (by omega), if_neg (by omega), if_neg (by omega)]
  · obtain ⟨cs, h1, h2, h3⟩ := rS
    refine ⟨cs, ?_, by rw [hn]; exact h2, by rw [hn]; exact h3⟩
    rw [Below.heap_alloc _ _ _ (by simp [World.setCell]; omega), Below.heap_setCell _ _ _ _ (by simp), hgP.block _ (by simp [World.setCell]; omega) (by simp), Below.heap_setCell _ _ _ _ (by simp)]
    exact h1
  · rw [if_neg (by omega), if_pos rfl]
  · obtain ⟨cs, h1, h2, h3⟩ := rP
    refine ⟨cs, ?_, by rw [hn]; exact h2, by rw [hn]; exact h3⟩
    rw [Below.heap_alloc _ _ _ (by simp [World.setCell]; omega), Below.heap_setCell _ _ _ _ (by simp; omega)]
    exact h1
  · obtain ⟨es, clock, hh, hl⟩ := hM
    exact ⟨es, clock, by rw [old M hMl]; exact hh, hl⟩
  · rw [if_neg (by omega), if_neg (by omega), if_neg (by omega)]
  · have := MapAt.made (enc := Value.string) (w3.setCell ⟨w1.heap.size, 3, none⟩ (.slice (some ⟨w2.heap.size, 0, none⟩) n n))
    simpa [World.setCell] using this
  · rw [if_neg (by omega), if_neg (by omega), if_pos rfl]

end Go.Proofs.Qxb6602416a
