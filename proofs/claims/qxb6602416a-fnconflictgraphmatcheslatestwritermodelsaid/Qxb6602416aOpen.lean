import Derived.Test.Qxb6602416aBase
import Derived.ProofKit
import Derived.OpenShut
import Derived.ShutString
import Derived.ChangeOld
import Derived.Below
import Derived.SliceStrings
import Derived.Deep.Grids
/-
  From a slice that came in, as the row's form reads it, to 'CellsAt'.
-/
namespace Go.Proofs.Qxb6602416a
open Go.ChangeShapes Go.WideShapes Go.ChangeAt Go.RowKit
set_option linter.unusedVariables false

theorem cellsAt_of {α : Type} {f : α → Value} {d : α} {W : World} {x : Addr} {zs : List α} {len : Nat} (hl : len ≤ zs.length) (hc : ∀ i, i < zs.length → W.cell? (x.add i) = some (f (zs.getD i d))) :
    (zs.take len).length = len ∧ CellsAt f d W (some x) (zs.take len) := by
  have e1 : (zs.take len).length = len := by rw [List.length_take]; omega
  refine ⟨e1, fun h0 => ?_⟩
  obtain ⟨b, off, spot⟩ := x
  have h00 : 0 < zs.length := by omega
  have hspot : spot = none := by simpa [Addr.add] using World.cell?_spot (hc 0 h00)
  subst hspot
  refine ⟨b, off, rfl, fun i hi => ?_⟩
  have := hc i (by omega)
  rw [add_plain] at this
  rw [this]
  have : (zs.take len).getD i d = zs.getD i d := by
    simp only [List.getD, List.getElem?_take]
    rw [if_pos (by omega)]
  rw [this]

section
variable {H : Type} {enc : TypeId × Value → H} {P : Program} {W : World}
theorem view_ints {T e : TypeId} {k : IntKind} (ht : P.underlying T = some (.slice e)) (he : P.underlying e = some (.int k)) (hc : P.cellsOf e = 1) {a : Option Addr} {len cap : Nat} {d : DataW H} {p : List MemPlace}
    (h : DataW.Trod enc P W 0 (fun _ => true) true T (.slice a len cap) d p) : ∃ zs : List Int, zs.length = len ∧ CellsAt (Value.int k) 0 W a zs := by
  obtain ⟨fuel, hf⟩ := h
  rcases open_ints ht he hc hf with ⟨hcs, _⟩ | ⟨x, l, c, zs, hcs, _, hl, hm, hz, _, hcell, hwz⟩
  · simp [Value.cells] at hcs
    obtain ⟨rfl, rfl, rfl⟩ := hcs
    exact ⟨[], rfl, fun h => by simp at h⟩
  · simp [Value.cells] at hcs
    obtain ⟨rfl, rfl, rfl⟩ := hcs
    have hz' : zs.length = cap := by simpa using hz
    exact ⟨_, cellsAt_of (by omega) hcell⟩
theorem view_strings {T e : TypeId} (ht : P.underlying T = some (.slice e)) (he : P.underlying e = some .string) (hc : P.cellsOf e = 1) {a : Option Addr} {len cap : Nat} {d : DataW H} {p : List MemPlace}
    (h : DataW.Trod enc P W 0 (fun _ => true) true T (.slice a len cap) d p) : ∃ zs : List ByteArray, zs.length = len ∧ CellsAt Value.string ByteArray.empty W a zs := by
  obtain ⟨fuel, hf⟩ := h
  rcases open_strings ht he hc hf with ⟨hcs, _⟩ | ⟨x, l, c, zs, hcs, _, hl, hm, hz, _, hcell, hwz⟩
  · simp [Value.cells] at hcs
    obtain ⟨rfl, rfl, rfl⟩ := hcs
    exact ⟨[], rfl, fun h => by simp at h⟩
  · simp [Value.cells] at hcs
    obtain ⟨rfl, rfl, rfl⟩ := hcs
    have hz' : zs.length = cap := by simpa using hz
    exact ⟨_, cellsAt_of (by omega) hcell⟩
theorem view_bools {T e : TypeId} (ht : P.underlying T = some (.slice e)) (he : P.underlying e = some .bool) (hc : P.cellsOf e = 1) {a : Option Addr} {len cap : Nat} {d : DataW H} {p : List MemPlace}
    (h : DataW.Trod enc P W 0 (fun _ => true) true T (.slice a len cap) d p) : ∃ zs : List Bool, zs.length = len ∧ CellsAt Value.bool false W a zs := by
  obtain ⟨fuel, hf⟩ := h
  rcases Deep.open_bools ht he hc hf with ⟨hcs, _⟩ | ⟨x, l, c, B, hcs, _, hl, hm, _, hcell⟩
  · simp [Value.cells] at hcs
    obtain ⟨rfl, rfl, rfl⟩ := hcs
    exact ⟨[], rfl, fun h => by simp at h⟩
  · simp [Value.cells] at hcs
    obtain ⟨rfl, rfl, rfl⟩ := hcs
    refine ⟨_, cellsAt_of (zs := (List.range cap).map B) (by simpa using hl) (fun i hi => ?_)⟩
    have hi' : i < cap := by simpa using hi
    rw [hcell i hi']
    simp [List.getD, hi']
end

end Go.Proofs.Qxb6602416a
