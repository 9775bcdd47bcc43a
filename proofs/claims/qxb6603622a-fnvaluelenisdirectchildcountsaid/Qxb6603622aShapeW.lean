import Derived.Test.Qxb6603622aPlain
import Derived.Deep.CutBlock
import Derived.OwnWalk
namespace Go.Proofs.Qxb6603622a
open Go.RowKit
set_option linter.unusedVariables false

theorem info3 : (Try.prog.info? 3).map (fun i => (i.zero, i.size, i.bytes)) = some (some (.int .i64 0), 1, 8) := by kernel_rfl

/-- The stack's cells (the list: top first). -/
def SC (cs : Array Value) : List Nat → Prop
  | [] => True
  | t :: r => cs[r.length]? = some (.int .i64 (t : Nat)) ∧ SC cs r
theorem SC.congr {cs cs' : Array Value} : ∀ {st : List Nat}, (∀ j, j < st.length → cs'[j]? = cs[j]?) → SC cs st → SC cs' st
  | [], _, _ => trivial
  | t :: r, h, ⟨h1, h2⟩ => ⟨by rw [h r.length (by simp)]; exact h1, SC.congr (fun j hj => h j (by simp; omega)) h2⟩

/-- The children's and the stack's blocks. -/
structure ShW (w wr : World) (S n : Nat) (st : List Nat) (ch : Nat → Nat) : Prop where
  bel : Below w.heap.size w wr
  slt : w.heap.size < S
  chd : ∃ cc, wr.heap[w.heap.size]? = some (.cells cc 3 (0, 0)) ∧ cc.size = n ∧ ∀ t, t < n → cc[t]? = some (.int .i64 (ch t : Nat))
  stk : ∃ cs, wr.heap[S]? = some (.cells cs 3 (0, 0)) ∧ cs.size = n ∧ SC cs st
theorem ShW.pop {w wr : World} {S n t : Nat} {r : List Nat} {ch : Nat → Nat} (h : ShW w wr S n (t :: r) ch) : ShW w wr S n r ch := by
  obtain ⟨cs, h1, h2, h3⟩ := h.stk
  exact ⟨h.bel, h.slt, h.chd, cs, h1, h2, h3.2⟩
theorem ShW.top {w wr : World} {S n t : Nat} {r : List Nat} {ch : Nat → Nat} (h : ShW w wr S n (t :: r) ch) : wr.cell? ⟨S, r.length, none⟩ = some (.int .i64 (t : Nat)) := by
  obtain ⟨cs, h1, h2, h3⟩ := h.stk
  exact cell_of h1 h3.1
theorem ShW.child {w wr : World} {S n t : Nat} {st : List Nat} {ch : Nat → Nat} (h : ShW w wr S n st ch) (ht : t < n) : wr.cell? ⟨w.heap.size, t, none⟩ = some (.int .i64 (ch t : Nat)) ∧ wr.frozen? ⟨w.heap.size, t, none⟩ = false := by
  obtain ⟨cc, h1, h2, h3⟩ := h.chd
  exact ⟨cell_of h1 (h3 t ht), frozen_of h1⟩
theorem ShW.bump {w wr : World} {S n t v : Nat} {z : Int} {st : List Nat} {ch : Nat → Nat} (h : ShW w wr S n st ch) (ht : t < n) (hz : z = (v : Nat)) : ShW w (wr.setCell ⟨w.heap.size, t, none⟩ (.int .i64 z)) S n st (upd ch t v) := by
  subst hz
  obtain ⟨cc, h1, h2, h3⟩ := h.chd
  obtain ⟨cs, g1, g2, g3⟩ := h.stk
  refine ⟨h.bel.setCell (p := ⟨w.heap.size, t, none⟩) (Nat.le_refl _) _, h.slt, ⟨_, heap_setCell_same wr w.heap.size t cc 3 _ h1, by simpa using h2, fun s hs => ?_⟩, cs, by rw [Below.heap_setCell _ _ _ _ (by have := h.slt; show S ≠ w.heap.size; omega)]; exact g1, g2, g3⟩
  by_cases hst : s = t
  · subst hst
    rw [upd_same, Array.getElem?_setIfInBounds_self_of_lt (by omega)]
  · rw [upd_ne _ _ _ _ hst, Array.getElem?_setIfInBounds_ne (by omega)]; exact h3 s hs
theorem ShW.owns {w wr : World} {S n : Nat} {st : List Nat} {ch : Nat → Nat} (h : ShW w wr S n st ch) (hl : st.length ≤ n) (hn : n ≤ 65536) :
    ∃ cs, wr.heap[S]? = some (.cells cs 3 (0, 0)) ∧ cs.size = n ∧ SC cs st ∧ wr.ownsRow w.heap.size 3 1 (.slice (some ⟨S, 0, none⟩) st.length n) st.length (cs.toList.take st.length) := by
  obtain ⟨cs, g1, g2, g3⟩ := h.stk
  refine ⟨cs, g1, g2, g3, by simp; omega, Or.inr ⟨S, n, cs, rfl, by have := h.slt; omega, g1, hl, by unfold maxLen; omega, by omega, by simp⟩⟩
theorem ShW.push {w wr w3 : World} {S n i : Nat} {st : List Nat} {ch : Nat → Nat} {cs : Array Value} {o : Obj} (h : ShW w wr S n st ch) (hcs : cs.size = n) (hsc : SC cs st)
    (hown : w3.ownsRow w.heap.size 3 1 (.slice (some ⟨S, 0, none⟩) (st.length + 1) n) (st.length + 1) (cs.toList.take st.length ++ [.int .i64 (i : Nat)])) (hgrow : (wr.alloc o).grownBy w3 (some S)) (hl : st.length < n) : ShW w w3 S n (i :: st) ch := by
  obtain ⟨cc, h1, h2, h3⟩ := h.chd
  have hlt : w.heap.size < wr.heap.size := (Array.getElem?_eq_some_iff.1 h1).1
  have hb : Below w.heap.size wr (wr.alloc o) := (Below.refl _ wr).alloc (by omega) _
  refine ⟨(h.bel.trans hb).grown hgrow (by simp; omega) (fun k e => by have := Option.some.inj e; have := h.slt; omega), h.slt, ⟨cc, ?_, h2, h3⟩, ?_⟩
  · rw [hgrow.block w.heap.size (by simp; omega) (by have := h.slt; simp; omega), Below.heap_alloc _ _ _ hlt]; exact h1
  · rcases hown.2 with ⟨h', _⟩ | ⟨g', cap', cur, h', _, hg, _, _, hs, htk⟩
    · simp at h'
    · simp only [Value.slice.injEq, Option.some.injEq, Addr.mk.injEq, and_true, true_and] at h'
      obtain ⟨rfl, rfl⟩ := h'
      rw [Nat.mul_one] at htk
      have hget : ∀ j, j < st.length + 1 → cur[j]? = (cs.toList.take st.length ++ [Value.int .i64 (i : Nat)])[j]? := fun j hj => by
        rw [← htk, List.getElem?_take, if_pos hj]; simp
      have hlen : (cs.toList.take st.length).length = st.length := by simp; omega
      refine ⟨cur, hg, by omega, ?_, SC.congr (fun j hj => ?_) hsc⟩
      · rw [hget st.length (by omega), List.getElem?_append_right (by omega), hlen, Nat.sub_self]; rfl
      · rw [hget j (by omega), List.getElem?_append_left (by omega), List.getElem?_take, if_pos hj]; simp

theorem ShW.start {w w1 w2 : World} {n : Nat} {z : Value} (hzz : z.cells = #[.int .i64 0]) (hC : w1.ownsRow w.heap.size 3 1 (.slice (some ⟨w.heap.size, 0, none⟩) n n) n (madeCells z.cells (n * 1)).toList) (hgC : w.grownBy w1 none)
    (hS : w2.ownsRow w.heap.size 3 1 (.slice (some ⟨w1.heap.size, 0, none⟩) 0 n) 0 []) (hgS : w1.grownBy w2 none) : ShW w w2 w1.heap.size n [] (fun _ => 0) := by
  rcases hC.2 with ⟨h', _⟩ | ⟨g', cap', cc, h', _, hg, _, _, hs, htk⟩
  · simp at h'
  · simp only [Value.slice.injEq, Option.some.injEq, Addr.mk.injEq, and_true, true_and] at h'
    obtain ⟨rfl, rfl⟩ := h'
    have hlt : w.heap.size < w1.heap.size := (Array.getElem?_eq_some_iff.1 hg).1
    have hg2 : w2.heap[w.heap.size]? = some (.cells cc 3 (0, 0)) := by rw [hgS.block _ hlt (by simp)]; exact hg
    refine ⟨((Below.refl _ w).grown hgC (Nat.le_refl _) (fun k h => by cases h)).grown hgS (by omega) (fun k h => by cases h), hlt, ⟨cc, hg2, by omega, fun t ht => ?_⟩, ?_⟩
    · have e1 : (madeCells z.cells (n * 1)).toList = List.replicate n (.int .i64 0) := by rw [Nat.mul_one, hzz]; exact toList_madeCells_one _ n
      rw [e1] at htk
      have e2 : (cc.toList.take (n * 1))[t]? = (List.replicate n (Value.int .i64 0))[t]? := by rw [htk]
      rw [List.getElem?_take, if_pos (by omega)] at e2
      simpa [ht] using e2
    · rcases hS.2 with ⟨h', _⟩ | ⟨g', cap', cs, h', _, hg', _, _, hs', _⟩
      · simp at h'
      · simp only [Value.slice.injEq, Option.some.injEq, Addr.mk.injEq, and_true, true_and] at h'
        obtain ⟨rfl, rfl⟩ := h'
        exact ⟨cs, hg', by omega, trivial⟩

def lenOf : Value → Nat | .slice _ l _ => l | _ => 0
/-- What zzShape answers: no, or the counts of a shaped document. -/
def ShapePost (w : World) (n : Nat) (kd : Nat → Int) (nx : Nat → Nat) (m : Nat) (e : Ending) (w' : World) : Prop :=
  Below w.heap.size w w' ∧ (e = .returned (.tuple #[.slice none 0 0, .bool false]) ∨
    ∃ a ch, m = n ∧ 0 < n ∧ n ≤ 65536 ∧ Shaped n kd nx ch ∧ e = .returned (.tuple #[.slice a n n, .bool true]) ∧ FAt (fun t => .int .i64 (ch t : Nat)) w' a n)
theorem ShapePost.no {w w' : World} {n m : Nat} {kd : Nat → Int} {nx : Nat → Nat} (h : Below w.heap.size w w') : ShapePost w n kd nx m (.returned (.tuple #[.slice none 0 0, .bool false])) w' := ⟨h, Or.inl rfl⟩

end Go.Proofs.Qxb6603622a
