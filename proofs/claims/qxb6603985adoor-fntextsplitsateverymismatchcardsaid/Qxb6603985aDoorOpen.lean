import Derived.Test.Qxb6603985aDoorLaw
import Derived.ProofKit
import Derived.OpenShut
import Derived.ShutString
import Derived.Below
import Derived.Deep.Slices
namespace Go.Proofs.Qxb6603985aDoor
open Go.ChangeShapes Go.WideShapes Go.ChangeAt Go.RowKit
set_option linter.unusedVariables false

theorem cells35 : Tryd.prog.cellsOf 35 = 3 := by kernel_rfl
theorem cells3 : Tryd.prog.cellsOf 3 = 1 := by kernel_rfl
theorem cells9 : Tryd.prog.cellsOf 9 = 1 := by kernel_rfl

theorem view_ms {H : Type} {enc : TypeId × Value → H} {W : World} {a : Option Addr} {len cap : Nat} {d : DataW H} {p : List MemPlace}
    (h : DataW.Trod enc Tryd.prog W 0 (fun _ => true) true 25 (.slice a len cap) d p) : ∃ ms : List M, ms.length = len ∧ MsAt W a ms ∧ Sides ms := by
  obtain ⟨fuel, hf⟩ := h
  rcases Deep.open_slice Tryd.underlying25 hf with ⟨hcs, _⟩ | ⟨x, l, c, m, n, D, Pl, hcs, _, hl, hm, hmm, _, hx⟩
  · simp [Value.cells] at hcs
    obtain ⟨rfl, rfl, rfl⟩ := hcs
    exact ⟨[], rfl, fun h => by simp at h, fun i hi => by simp at hi⟩
  · simp [Value.cells] at hcs
    obtain ⟨rfl, rfl, rfl⟩ := hcs
    simp at hmm
    subst hmm
    have each : ∀ i, i < m → ∃ q : M, W.cell? (x.add (i * 3)) = some (.int .i64 q.side) ∧ W.cell? (x.add (i * 3 + 1)) = some (.string q.path) ∧ W.cell? (x.add (i * 3 + 2)) = some (.string q.reason) ∧ -9223372036854775808 ≤ q.side ∧ q.side ≤ 9223372036854775807 := by
      intro i hi
      obtain ⟨cs', h1, h2⟩ := hx i hi
      rw [cells35] at h1
      obtain ⟨_, hlen, hcell⟩ := World.cells?_some h1
      obtain ⟨xs, k, hk, hxy, _, hxl, hfl⟩ := DataW.trod_struct Tryd.underlying35 h2
      match xs, hxl, cs', hlen with
      | [y0, y1, y2], _, [v0, v1, v2], _ =>
        have g0 := hfl 0 _ rfl
        have g1 := hfl 1 _ rfl
        have g2 := hfl 2 _ rfl
        simp [cells3, cells9] at g0 g1 g2
        have e0 := hcell 0 (by omega)
        have e1 := hcell 1 (by omega)
        have e2 := hcell 2 (by omega)
        rw [Deep.add_add] at e0 e1 e2
        obtain ⟨z, hz, _, hw⟩ := DataW.trod_int Tryd.underlying3 g0
        obtain ⟨s1, hs1, _, _⟩ := DataW.trod_string Tryd.underlying9 g1
        obtain ⟨s2, hs2, _, _⟩ := DataW.trod_string Tryd.underlying9 g2
        simp only [List.cons.injEq, and_true] at hz hs1 hs2
        subst hz hs1 hs2
        have n1 : IntKind.i64.min = -9223372036854775808 := rfl
        have n2 : IntKind.i64.max = 9223372036854775807 := rfl
        simp [Lit.wf, n1, n2] at hw
        exact ⟨⟨z, s1, s2⟩, by simpa using e0, by simpa using e1, by simpa using e2, hw.1, hw.2⟩
    haveI : Inhabited M := ⟨mZero⟩
    obtain ⟨q, hq⟩ := Deep.choose_lt each
    have hln : ((List.range len).map q).length = len := by simp
    have hgd : ∀ i, i < len → ((List.range len).map q).getD i mZero = q i := fun i hi => by simp [List.getD, hi]
    refine ⟨(List.range len).map q, hln, fun h0 => ?_, fun i hi => ?_⟩
    · rw [hln] at h0
      obtain ⟨b, off, spot⟩ := x
      have hspot : spot = none := by simpa [Addr.add] using World.cell?_spot (hq 0 (by omega)).1
      subst hspot
      refine ⟨b, off, rfl, fun i hi => ?_⟩
      rw [hln] at hi
      rw [hgd i hi]
      obtain ⟨x0, x1, x2, _⟩ := hq i (by omega)
      rw [add_plain] at x0 x1 x2
      exact ⟨x0, by rw [Nat.add_assoc]; exact x1, by rw [Nat.add_assoc]; exact x2⟩
    · rw [hln] at hi
      rw [hgd i hi]
      exact ⟨(hq i (by omega)).2.2.2.1, (hq i (by omega)).2.2.2.2⟩

end Go.Proofs.Qxb6603985aDoor
