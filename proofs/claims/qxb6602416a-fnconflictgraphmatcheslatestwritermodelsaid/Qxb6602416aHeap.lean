import Derived.Test.Qxb6602416aBase
import Derived.Deep.AppendLies
import Derived.Deep.RegionHeld3
namespace Go.Proofs.Qxb6602416a
open Go.RowKit

/-- What a block is for: a ghost of the proof. -/
abbrev Tag := Nat × Nat

/-- From w to w' only blocks whose tag 'may' names are written; the tags of what was there stay. -/
structure Fr (may : Tag → Prop) (own own' : Nat → Tag) (w w' : World) : Prop where
  os : w'.os = w.os
  tape : w'.tape = w.tape
  output : w'.output = w.output
  size : w.heap.size ≤ w'.heap.size
  tags : ∀ b, b < w.heap.size → own' b = own b
  block : ∀ b, b < w.heap.size → ¬ may (own b) → w'.heap[b]? = w.heap[b]?

theorem Fr.refl (may : Tag → Prop) (own : Nat → Tag) (w : World) : Fr may own own w w := ⟨rfl, rfl, rfl, Nat.le_refl _, fun _ _ => rfl, fun _ _ _ => rfl⟩

theorem Fr.trans {may : Tag → Prop} {o1 o2 o3 : Nat → Tag} {w1 w2 w3 : World} (h : Fr may o1 o2 w1 w2) (k : Fr may o2 o3 w2 w3) : Fr may o1 o3 w1 w3 :=
  ⟨k.os.trans h.os, k.tape.trans h.tape, k.output.trans h.output, Nat.le_trans h.size k.size,
   fun b hb => (k.tags b (Nat.lt_of_lt_of_le hb h.size)).trans (h.tags b hb),
   fun b hb hm => (k.block b (Nat.lt_of_lt_of_le hb h.size) (by rw [h.tags b hb]; exact hm)).trans (h.block b hb hm)⟩

theorem Fr.mono {may may' : Tag → Prop} {o1 o2 : Nat → Tag} {w1 w2 : World} (h : Fr may o1 o2 w1 w2) (hm : ∀ t, may t → may' t) : Fr may' o1 o2 w1 w2 :=
  ⟨h.os, h.tape, h.output, h.size, h.tags, fun b hb hn => h.block b hb (fun x => hn (hm _ x))⟩

theorem Fr.drew {may : Tag → Prop} {o1 o2 : Nat → Tag} {w1 w2 : World} (h : Fr may o1 o2 w1 w2) : Fr may o1 o2 w1 w2.drew := ⟨h.os, h.tape, h.output, h.size, h.tags, h.block⟩
theorem Fr.drewN {may : Tag → Prop} {o1 o2 : Nat → Tag} {w1 w2 : World} (h : Fr may o1 o2 w1 w2) (n : Nat) : Fr may o1 o2 w1 (w2.drewN n) := ⟨h.os, h.tape, h.output, h.size, h.tags, h.block⟩

/-- A new block, under whatever tag. -/
theorem Fr.alloc {may : Tag → Prop} {o1 o2 : Nat → Tag} {w1 w2 : World} (h : Fr may o1 o2 w1 w2) (ob : Obj) (t : Tag) : Fr may o1 (fun b => if b = w2.heap.size then t else o2 b) w1 (w2.alloc ob) := by
  refine h.trans ⟨rfl, rfl, rfl, by simp, fun b hb => if_neg (by omega), fun b hb _ => Below.heap_alloc w2 ob b hb⟩
theorem Fr.alloc0 {may : Tag → Prop} {o1 o2 : Nat → Tag} {w1 w2 : World} (h : Fr may o1 o2 w1 w2) (ob : Obj) : Fr may o1 o2 w1 (w2.alloc ob) := by
  refine h.trans ⟨rfl, rfl, rfl, by simp, fun b hb => rfl, fun b hb _ => Below.heap_alloc w2 ob b hb⟩

theorem Fr.setCell {may : Tag → Prop} {o1 o2 : Nat → Tag} {w1 w2 : World} (h : Fr may o1 o2 w1 w2) (a : Addr) (u : Value) (hm : may (o2 a.block)) : Fr may o1 o2 w1 (w2.setCell a u) := by
  refine h.trans ⟨rfl, rfl, rfl, by simp [World.setCell], fun b hb => rfl, fun b hb hn => Below.heap_setCell _ _ _ _ (fun e => hn (e ▸ hm))⟩

/-- Where all that was there at the start bears a tag that is never written: nothing old has turned. -/
theorem Fr.below {may : Tag → Prop} {o1 o2 : Nat → Tag} {w1 w2 : World} (h : Fr may o1 o2 w1 w2) {B : Nat} (hB : B ≤ w1.heap.size) (hm : ∀ b, b < B → ¬ may (o1 b)) : Below B w1 w2 :=
  ⟨h.os, h.tape, h.output, h.size, fun k hk => h.block k (Nat.lt_of_lt_of_le hk hB) (hm k hk)⟩

theorem Fr.cell {may : Tag → Prop} {o1 o2 : Nat → Tag} {w1 w2 : World} (h : Fr may o1 o2 w1 w2) {p : Addr} {v : Value} (hc : w1.cell? p = some v) (hm : ¬ may (o1 p.block)) : w2.cell? p = some v := by
  rw [World.cell?_of_block (w := w1) (h.block p.block (World.block_lt_of_cell? w1 p hc) hm)]; exact hc

theorem grown_fr {own : Nat → Tag} {w w' : World} {b : Nat} {t : Tag} (h : w.grownBy w' (some b)) (hb : own b = t) : Fr (fun u => u = t) own own w w' :=
  ⟨h.os, h.tape, h.output, h.size, fun _ _ => rfl, fun k hk hn => h.block k hk (fun e => hn (by cases e; exact hb))⟩

theorem lt_of_heap {w : World} {g : Nat} {o : Obj} (h : w.heap[g]? = some o) : g < w.heap.size := (Array.getElem?_eq_some_iff.1 h).1

theorem Fr.heap {may : Tag → Prop} {o1 o2 : Nat → Tag} {w1 w2 : World} (h : Fr may o1 o2 w1 w2) {g : Nat} {o : Obj} (hg : w1.heap[g]? = some o) (hm : ¬ may (o1 g)) : w2.heap[g]? = some o := by
  rw [h.block g (lt_of_heap hg) hm]; exact hg

/-- The slice v holds the numbers xs, in a row of its own, tagged t (or it is nil). -/
def RowT (own : Nat → Tag) (w : World) (t : Tag) (v : Value) (xs : List Int) : Prop :=
  w.ownsRow 0 3 1 v xs.length (xs.map (Value.int .i64)) ∧ ∀ g, v.ownBlock = some g → own g = t

theorem RowT.nil (own : Nat → Tag) (w : World) (t : Tag) : RowT own w t (.slice none 0 0) [] := ⟨World.ownsRow_nil _ _ _ _, fun g h => by cases h⟩

theorem RowT.fr {may : Tag → Prop} {o1 o2 : Nat → Tag} {w1 w2 : World} {t : Tag} {v : Value} {xs : List Int} (h : RowT o1 w1 t v xs) (hf : Fr may o1 o2 w1 w2) (hm : ¬ may t) : RowT o2 w2 t v xs := by
  obtain ⟨ho, ht⟩ := h
  refine ⟨⟨ho.1, ?_⟩, fun g hg => ?_⟩
  · rcases ho.2 with hn | ⟨g, cap, cur, rfl, hb, hgg, rest⟩
    · exact .inl hn
    · exact .inr ⟨g, cap, cur, rfl, hb, hf.heap hgg (by rw [ht g rfl]; exact hm), rest⟩
  · rw [hf.tags g (ho.lt g hg).2]; exact ht g hg

/-- The slice's shape. -/
theorem RowT.form {own : Nat → Tag} {w : World} {t : Tag} {v : Value} {xs : List Int} (h : RowT own w t v xs) : ∃ a cap, v = .slice a xs.length cap ∧ CellsAt (Value.int .i64) 0 w a xs := by
  obtain ⟨ho, _⟩ := h
  rcases ho.2 with ⟨rfl, h0⟩ | ⟨g, cap, cur, rfl, hb, hgg, _, _, _, ht⟩
  · exact ⟨none, 0, by rw [h0], fun h => by omega⟩
  · refine ⟨_, cap, rfl, fun _ => ⟨g, 0, rfl, fun i hi => ?_⟩⟩
    have := ho.cells (g := g) rfl i (.int .i64 (xs.getD i 0)) (by simp [hi])
    rw [Addr.add_mid] at this; exact this

theorem RowT.cells {own : Nat → Tag} {w : World} {t : Tag} {a : Option Addr} {n cap : Nat} {xs : List Int} (h : RowT own w t (.slice a n cap) xs) : CellsAt (Value.int .i64) 0 w a xs := by
  obtain ⟨a', cap', e, hc⟩ := h.form
  cases e
  exact hc

/-- A slice of n slices of numbers: f i is row i. -/
def Rows2 (own : Nat → Tag) (w : World) (c : Nat) (S n : Nat) (f : Nat → List Int) : Prop :=
  own S = (1, c) ∧ ∃ cs : Array Value, w.heap[S]? = some (.cells cs 22 (0, 0)) ∧ cs.size = n ∧ ∀ i, i < n → ∃ v, cs[i]? = some v ∧ RowT own w (2 + c, i) v (f i)

theorem Rows2.fr {may : Tag → Prop} {o1 o2 : Nat → Tag} {w1 w2 : World} {c S n : Nat} {f : Nat → List Int} (h : Rows2 o1 w1 c S n f) (hf : Fr may o1 o2 w1 w2) (hm : ¬ may (1, c)) (hm2 : ∀ i, ¬ may (2 + c, i)) : Rows2 o2 w2 c S n f := by
  obtain ⟨hS, cs, hh, hs, hr⟩ := h
  refine ⟨by rw [hf.tags S (lt_of_heap hh)]; exact hS, cs, hf.heap hh (by rw [hS]; exact hm), hs, fun i hi => ?_⟩
  obtain ⟨v, hv, hrow⟩ := hr i hi
  exact ⟨v, hv, hrow.fr hf (hm2 i)⟩

def upd (f : Nat → List Int) (k : Nat) (xs : List Int) : Nat → List Int := fun i => if i = k then xs else f i

/-- What one 'rows[k] = append(rows[k], x)' does, said of worlds alone: w: ahead of it; w0: behind the box for x; w1: behind the append; then the store. -/
theorem Rows2.push {own : Nat → Tag} {w w0 w1 : World} {c S n k g cap : Nat} {f : Nat → List Int} {v : Value} {x : Int}
    (h : Rows2 own w c S n f) (hk : k < n) (hv : w.cell? ⟨S, k, none⟩ = some v)
    (h0 : Fr (fun _ => False) own own w w0)
    (hown : w1.ownsRow 0 3 1 (.slice (some ⟨g, 0, none⟩) ((f k).length + 1) cap) ((f k).length + 1) ((f k).map (Value.int .i64) ++ [.int .i64 x]))
    (hgrow : w0.grownBy w1 v.ownBlock) (hat : v.ownBlock = some g ∨ g = w0.heap.size) :
    ∃ own', Fr (fun t => t = (1, c) ∨ t.1 = 2 + c) own own' w (w1.setCell ⟨S, k, none⟩ (.slice (some ⟨g, 0, none⟩) ((f k).length + 1) cap)) ∧
      Rows2 own' (w1.setCell ⟨S, k, none⟩ (.slice (some ⟨g, 0, none⟩) ((f k).length + 1) cap)) c S n (upd f k (f k ++ [x])) := by
  obtain ⟨hS, cs, hh, hs, hr⟩ := h
  obtain ⟨v', hv', hrow⟩ := hr k hk
  have e : v' = v := by
    have : w.cell? ⟨S, k, none⟩ = cs[k]? := by simp [World.cell?, hh]
    rw [hv, hv'] at this; cases this; rfl
  subst e
  have hSlt := lt_of_heap hh
  have hw0 : w.heap.size ≤ w0.heap.size := h0.size
  have hh0 : w0.heap[S]? = some (.cells cs 22 (0, 0)) := h0.heap hh (fun x => x)
  have hSne : some S ≠ v'.ownBlock := fun e => by have := hrow.2 S e.symm; rw [hS] at this; simp only [Prod.mk.injEq] at this; omega
  have hh1 : w1.heap[S]? = some (.cells cs 22 (0, 0)) := by rw [hgrow.block S (by omega) hSne]; exact hh0
  have hgS : g ≠ S := by
    rcases hat with h | h
    · exact fun e => hSne (by rw [h, e])
    · omega
  have hold : ∀ j, v'.ownBlock = some j → own j = (2 + c, k) := hrow.2
  have hgo : g < w.heap.size → own g = (2 + c, k) := fun hg => by
    rcases hat with h | h
    · exact hold g h
    · omega
  have F : Fr (fun t => t = (1, c) ∨ t.1 = 2 + c) own (fun b => if b = g then (2 + c, k) else own b) w (w1.setCell ⟨S, k, none⟩ (.slice (some ⟨g, 0, none⟩) ((f k).length + 1) cap)) := by
    refine ⟨hgrow.os.trans h0.os, hgrow.tape.trans h0.tape, hgrow.output.trans h0.output, by simpa [World.setCell] using Nat.le_trans hw0 hgrow.size, fun b hb => ?_, fun b hb hm => ?_⟩
    · by_cases hbg : b = g
      · subst hbg; simp [hgo hb]
      · simp [hbg]
    · have hbS : b ≠ S := fun e => hm (.inl (by rw [e, hS]))
      have hbv : some b ≠ v'.ownBlock := fun e => hm (.inr (by rw [hold b e.symm]))
      rw [Below.heap_setCell _ _ _ _ hbS, hgrow.block b (by omega) hbv, h0.block b hb (fun x => x)]
  refine ⟨_, F, ⟨?_, cs.setIfInBounds k _, heap_setCell_same w1 S k cs 22 _ hh1, by simpa using hs, fun i hi => ?_⟩⟩
  · show (if S = g then _ else own S) = _
    rw [if_neg (Ne.symm hgS), hS]
  · by_cases hik : i = k
    · subst hik
      refine ⟨.slice (some ⟨g, 0, none⟩) ((f i).length + 1) cap, by rw [Array.getElem?_setIfInBounds_self_of_lt (by omega)], ?_⟩
      have hu : upd f i (f i ++ [x]) i = f i ++ [x] := by simp [upd]
      rw [hu]
      refine ⟨?_, fun g' hg' => ?_⟩
      · have hown2 : (w1.setCell ⟨S, i, none⟩ (.slice (some ⟨g, 0, none⟩) ((f i).length + 1) cap)).ownsRow 0 3 1 (.slice (some ⟨g, 0, none⟩) ((f i).length + 1) cap) ((f i).length + 1) ((f i).map (Value.int .i64) ++ [.int .i64 x]) := by
          obtain ⟨q1, q2⟩ := hown
          refine ⟨q1, ?_⟩
          rcases q2 with q2 | ⟨g2, cap2, cur, hv2, hb2, hh2, rest⟩
          · exact .inl q2
          · simp only [Value.slice.injEq, Option.some.injEq, Addr.mk.injEq, and_true, true_and] at hv2
            obtain ⟨rfl, rfl⟩ := hv2
            exact .inr ⟨g, cap, cur, rfl, hb2, by rw [Below.heap_setCell _ _ _ _ hgS]; exact hh2, rest⟩
        simpa using hown2
      · simp only [Value.ownBlock, Option.some.injEq] at hg'
        simp [← hg']
    · obtain ⟨vi, hvi, hri⟩ := hr i hi
      refine ⟨vi, by rw [Array.getElem?_setIfInBounds_ne (Ne.symm hik)]; exact hvi, ?_⟩
      have hu : upd f k (f k ++ [x]) i = f i := by simp [upd, hik]
      rw [hu]
      obtain ⟨ho, ht⟩ := hri
      refine ⟨⟨ho.1, ?_⟩, fun g' hg' => ?_⟩
      · rcases ho.2 with hn | ⟨g', cap', cur, rfl, hb, hgg, rest⟩
        · exact .inl hn
        · refine .inr ⟨g', cap', cur, rfl, hb, ?_, rest⟩
          have hg'S : g' ≠ S := fun e => by have := ht g' rfl; rw [e, hS] at this; simp only [Prod.mk.injEq] at this; omega
          have hg'v : some g' ≠ v'.ownBlock := fun e => by have := ht g' rfl; rw [hold g' e.symm] at this; simp only [Prod.mk.injEq] at this; omega
          have hl := lt_of_heap hgg
          rw [Below.heap_setCell _ _ _ _ hg'S, hgrow.block g' (by omega) hg'v, h0.block g' hl (fun x => x)]
          exact hgg
      · have hl := (ho.lt g' hg').2
        have hne : g' ≠ g := fun e => by
          have h1 := ht g' hg'
          rw [e, hgo (by omega)] at h1
          simp only [Prod.mk.injEq] at h1; omega
        show (if g' = g then _ else own g') = _
        rw [if_neg hne]; exact ht g' hg'

end Go.Proofs.Qxb6602416a
