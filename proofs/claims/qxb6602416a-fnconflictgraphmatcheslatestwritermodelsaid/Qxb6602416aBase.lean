import Derived.Test.Qxb6602416aRows
import Derived.WalkKit
import Derived.WalkSpells
import Derived.WalkLawsBesides
import Derived.Deep.QuietTactic
import Derived.BigQuiet
namespace Go.Proofs.Qxb6602416a
open Go.RowKit

theorem Try.info3 : (Try.prog.info? 3).map (fun i => (i.zero, i.size, i.bytes)) = some (some (.int .i64 0), 1, 8) := by kernel_rfl
theorem Try.info4 : (Try.prog.info? 4).map (fun i => (i.zero, i.size, i.bytes)) = some (some (.bool false), 1, 1) := by kernel_rfl
theorem Try.info5 : (Try.prog.info? 5).map (fun i => (i.zero, i.size, i.bytes)) = some (some (.int .u8 0), 1, 1) := by kernel_rfl
theorem Try.info9 : (Try.prog.info? 9).map (fun i => (i.zero, i.size, i.bytes)) = some (some (.string ByteArray.empty), 1, 16) := by kernel_rfl
theorem Try.info22 : (Try.prog.info? 22).map (fun i => (i.zero, i.size, i.bytes)) = some (some (.slice none 0 0), 1, 24) := by kernel_rfl

/-- The slice at 'a' holds the values 'f x' for x in xs. -/
def CellsAt {α : Type} (f : α → Value) (d : α) (w : World) (a : Option Addr) (xs : List α) : Prop :=
  0 < xs.length → ∃ b off, a = some ⟨b, off, none⟩ ∧ ∀ i, i < xs.length → w.cell? ⟨b, off + i, none⟩ = some (f (xs.getD i d))

theorem CellsAt.below {α : Type} {f : α → Value} {d : α} {w w' : World} {a : Option Addr} {xs : List α} (h : CellsAt f d w a xs) (hb : Below w.heap.size w w') : CellsAt f d w' a xs := by
  intro h0
  obtain ⟨b, off, ha, hc⟩ := h h0
  refine ⟨b, off, ha, fun i hi => ?_⟩
  have hlt : b < w.heap.size := World.block_lt_of_cell? w ⟨b, off + i, none⟩ (hc i hi)
  rw [hb.cell hlt]
  exact hc i hi

theorem hcell_below {w w' : World} {p : Addr} {v : Value} (hb : Below w.heap.size w w') (h : w.cell? p = some v) : w'.cell? p = some v := by
  rw [hb.cell (World.block_lt_of_cell? w p h)]; exact h

/-- 'It answers a bool; where that is true, p holds; nothing old has turned.' -/
def BoolPost (w : World) (p : Prop) (e : Ending) (w' : World) : Prop := ∃ b, e = .returned (.bool b) ∧ (b = true → p) ∧ Below w.heap.size w w'
theorem BoolPost.ff {w w' : World} {p : Prop} (h : Below w.heap.size w w') : BoolPost w p (.returned (.bool false)) w' := ⟨false, rfl, (fun h => by cases h), h⟩
theorem BoolPost.tt {w w' : World} {p : Prop} {b : Bool} (hp : p) (h : Below w.heap.size w w') : BoolPost w p (.returned (.bool b)) w' := ⟨b, rfl, fun _ => hp, h⟩

/-- A block of the call's own, being filled: the first k cells hold what they shall hold. -/
def RowPart {α : Type} (f : α → Value) (d : α) (w : World) (g : Nat) (e : TypeId) (xs : List α) (k : Nat) : Prop :=
  ∃ cur : Array Value, w.heap[g]? = some (.cells cur e (0, 0)) ∧ cur.size = xs.length ∧ ∀ i, i < k → cur[i]? = some (f (xs.getD i d))

section
variable {α : Type} {f : α → Value} {d : α} {w : World} {g : Nat} {e : TypeId} {xs : List α} {k : Nat}

theorem rowPart_made {base : Nat} {ys : List Value} (h : w.ownsRow base e 1 (.slice (some ⟨g, 0, none⟩) xs.length xs.length) xs.length ys) : RowPart f d w g e xs 0 := by
  rcases h.2 with ⟨h', _⟩ | ⟨g', cap', cur, h', _, hg, _, _, hs, _⟩
  · simp at h'
  · simp only [Value.slice.injEq, Option.some.injEq, Addr.mk.injEq, and_true, true_and] at h'
    obtain ⟨rfl, rfl⟩ := h'
    exact ⟨cur, hg, by simpa using hs, fun i hi => by omega⟩

theorem RowPart.cell (h : RowPart f d w g e xs k) (hk : k < xs.length) : ∃ v, w.cell? ⟨g, k, none⟩ = some v := by
  obtain ⟨cur, hg, hs, _⟩ := h
  exact ⟨cur[k]'(by omega), by simp [World.cell?, hg, hs, hk]⟩

theorem RowPart.free (h : RowPart f d w g e xs k) (j : Nat) : w.frozen? ⟨g, j, none⟩ = false := by
  obtain ⟨cur, hg, hs, _⟩ := h
  simp [World.frozen?, hg]

theorem RowPart.store (h : RowPart f d w g e xs k) (hk : k < xs.length) (v : Value) (hv : v = f (xs.getD k d)) : RowPart f d (w.setCell ⟨g, k, none⟩ v) g e xs (k + 1) := by
  obtain ⟨cur, hg, hs, hc⟩ := h
  refine ⟨cur.setIfInBounds k v, heap_setCell_same w g k cur e v hg, by simpa using hs, fun i hi => ?_⟩
  by_cases hik : i = k
  · subst hik; rw [hv, Array.getElem?_setIfInBounds_self_of_lt (by omega)]
  · rw [Array.getElem?_setIfInBounds_ne (by omega)]; exact hc i (by omega)

theorem RowPart.full (h : RowPart f d w g e xs k) (hk : xs.length ≤ k) : CellsAt f d w (some ⟨g, 0, none⟩) xs := by
  obtain ⟨cur, hg, hs, hc⟩ := h
  intro _
  refine ⟨g, 0, rfl, fun i hi => ?_⟩
  rw [Nat.zero_add]
  simpa [World.cell?, hg] using hc i (by omega)
end

end Go.Proofs.Qxb6602416a
