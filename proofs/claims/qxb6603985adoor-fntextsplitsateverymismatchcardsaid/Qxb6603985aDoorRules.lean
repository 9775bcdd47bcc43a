import Derived.Test.Qxb6603985aDoorBytes
import Derived.BigRegion
import Derived.Lib.SliceRun
namespace Go.Proofs.Qxb6603985aDoor
open Go.RowKit
set_option linter.unusedVariables false

theorem infoM : (Tryd.prog.info? 31).map (fun i => (i.zero, i.size, i.bytes)) = some (some (.agg #[.int .i64 0, .string ⟨#[]⟩, .string ⟨#[]⟩]), 3, 40) := by kernel_rfl

/-- A block of the call's own, being filled: the first k mismatches stand. -/
def MsPart (w : World) (g : Nat) (ms : List M) (k : Nat) : Prop :=
  ∃ cur : Array Value, w.heap[g]? = some (.cells cur 31 (0, 0)) ∧ cur.size = ms.length * 3 ∧ ∀ i, i < k →
    cur[i * 3]? = some (.int .i64 (ms.getD i mZero).side) ∧ cur[i * 3 + 1]? = some (.string (ms.getD i mZero).path) ∧ cur[i * 3 + 2]? = some (.string (ms.getD i mZero).reason)

theorem msPart_made {w : World} {g : Nat} {ms : List M} {base : Nat} {ys : List Value} (h : w.ownsRow base 31 3 (.slice (some ⟨g, 0, none⟩) ms.length ms.length) ms.length ys) : MsPart w g ms 0 := by
  rcases h.2 with ⟨h', _⟩ | ⟨g', cap', cur, h', _, hg, _, _, hs, _⟩
  · simp at h'
  · simp only [Value.slice.injEq, Option.some.injEq, Addr.mk.injEq, and_true, true_and] at h'
    obtain ⟨rfl, rfl⟩ := h'
    exact ⟨cur, hg, hs, fun i hi => by omega⟩
theorem MsPart.cell {w : World} {g : Nat} {ms : List M} {k : Nat} (h : MsPart w g ms k) (j : Nat) (hj : j < ms.length * 3) : ∃ v, w.cell? ⟨g, j, none⟩ = some v := by
  obtain ⟨cur, hg, hs, _⟩ := h
  exact ⟨cur[j]'(by omega), by simp [World.cell?, hg, hs, hj]⟩
theorem MsPart.free {w : World} {g : Nat} {ms : List M} {k : Nat} (h : MsPart w g ms k) (j : Nat) : w.frozen? ⟨g, j, none⟩ = false := by
  obtain ⟨cur, hg, hs, _⟩ := h
  simp [World.frozen?, hg]
theorem MsPart.drew {w : World} {g : Nat} {ms : List M} {k : Nat} (h : MsPart w g ms k) : MsPart w.drew g ms k := h
theorem MsPart.store {w : World} {g : Nat} {ms : List M} {k : Nat} (h : MsPart w g ms k) (hk : k < ms.length) (m : M) (hm : ms.getD k mZero = m) :
    MsPart (((w.setCell ⟨g, k * 3, none⟩ (.int .i64 m.side)).setCell ⟨g, k * 3 + 1, none⟩ (.string m.path)).setCell ⟨g, k * 3 + 2, none⟩ (.string m.reason)) g ms (k + 1) := by
  obtain ⟨cur, hg, hs, hc⟩ := h
  have g1 := heap_setCell_same w g (k * 3) cur 31 (.int .i64 m.side) hg
  have g2 := heap_setCell_same _ g (k * 3 + 1) _ 31 (.string m.path) g1
  have g3 := heap_setCell_same _ g (k * 3 + 2) _ 31 (.string m.reason) g2
  refine ⟨_, g3, by simpa using hs, fun i hi => ?_⟩
  rcases Nat.lt_succ_iff_lt_or_eq.1 hi with h' | h'
  · obtain ⟨x, y, z⟩ := hc i h'
    refine ⟨?_, ?_, ?_⟩
    · rw [Array.getElem?_setIfInBounds_ne (by omega), Array.getElem?_setIfInBounds_ne (by omega), Array.getElem?_setIfInBounds_ne (by omega)]; exact x
    · rw [Array.getElem?_setIfInBounds_ne (by omega), Array.getElem?_setIfInBounds_ne (by omega), Array.getElem?_setIfInBounds_ne (by omega)]; exact y
    · rw [Array.getElem?_setIfInBounds_ne (by omega), Array.getElem?_setIfInBounds_ne (by omega), Array.getElem?_setIfInBounds_ne (by omega)]; exact z
  · subst h'
    rw [hm]
    refine ⟨?_, ?_, ?_⟩
    · rw [Array.getElem?_setIfInBounds_ne (by omega), Array.getElem?_setIfInBounds_ne (by omega), Array.getElem?_setIfInBounds_self_of_lt (by omega)]
    · rw [Array.getElem?_setIfInBounds_ne (by omega), Array.getElem?_setIfInBounds_self_of_lt (by simp; omega)]
    · rw [Array.getElem?_setIfInBounds_self_of_lt (by simp; omega)]
theorem MsPart.full {w : World} {g : Nat} {ms : List M} {k : Nat} (h : MsPart w g ms k) (hk : ms.length ≤ k) : MsAt w (some ⟨g, 0, none⟩) ms := by
  obtain ⟨cur, hg, hs, hc⟩ := h
  intro _
  refine ⟨g, 0, rfl, fun i hi => ?_⟩
  rw [Nat.zero_add]
  obtain ⟨x, y, z⟩ := hc i (by omega)
  exact ⟨by simpa [World.cell?, hg] using x, by simpa [World.cell?, hg] using y, by simpa [World.cell?, hg] using z⟩

set_option maxHeartbeats 4000000 in
theorem toRules_any (w : World) (a : Option Addr) (c : Nat) (ms : List M) (h0 : MsAt w a ms) (hl : ms.length ≤ 65536) :
    Calls Tryd.prog 8 #[.slice a ms.length c] w fun e w' => ∃ a' c', e = .returned (.slice a' ms.length c') ∧ MsAt w' a' ms ∧ Below w.heap.size w w' := by
  obtain ⟨i0, hi, hz0, hz1, hz2⟩ := info_parts infoM
  cases a with
  | none =>
    have hz : ms.length = 0 := by
      rcases Nat.eq_zero_or_pos ms.length with h | h
      · exact h
      · obtain ⟨b, o, e, _⟩ := h0 h
        cases e
    have HZ := (show Hid _ from hz); clear hz
    have hn : ∀ w : World, (binOp .eql 25 (.slice none ms.length c) (.slice none 0 0)).run Tryd.prog w = .ok (.bool true) w := fun w => Lib.run_eql_slice_nil w 25 35 none ms.length c 0 0 Tryd.underlying25
    go_enter Tryd.func8, Tryd.ntmps8
    go_wp2_with fail
    go_ret
    exact ⟨none, 0, by rw [HZ.out]; rfl, fun h => by have := HZ.out; omega, Below.refl _ _⟩
  | some ad =>
    have hn : ∀ w : World, (binOp .eql 25 (.slice (some ad) ms.length c) (.slice none 0 0)).run Tryd.prog w = .ok (.bool false) w := fun w => Lib.run_eql_slice_nil w 25 35 (some ad) ms.length c 0 0 Tryd.underlying25
    go_enter Tryd.func8, Tryd.ntmps8
    go_wp2_with (at_make; refine wpList_make_full _ rfl _ _ 28 rfl w.heap.size 31 i0 _ 3 Tryd.underlying28 hi hz0 hz1 .i64 .i64 _ _ ms.length rfl rfl rfl rfl (by rw [hz2]; omega) (by unfold maxLen; omega) (Nat.le_refl _) ?_; intro w1 hown hgr)
    have hst := msPart_made hown
    clear hown
    go_loopw [4] (fun i wr => ∃ k : Nat, k ≤ ms.length ∧ i = .int .i64 k ∧ Below w.heap.size w wr ∧ MsPart wr w.heap.size ms k) (fun i _ => ms.length - (intOf i).toNat)
    case atStart => exact ⟨0, Nat.zero_le _, rfl, (Below.refl _ _).grown hgr (Nat.le_refl _) (fun k h => by cases h), hst⟩
    case round =>
      clear hst hgr
      obtain ⟨k, hk, rfl, hb, hrow⟩ := hrel
      by_cases hlt : k < ms.length
      · obtain ⟨b, off, hab, hcc⟩ := h0 (by omega)
        obtain rfl := Option.some.inj hab
        obtain ⟨d0, d1, d2⟩ := hcc k hlt
        obtain ⟨m, hm⟩ : ∃ m, ms.getD k mZero = m := ⟨_, rfl⟩
        rw [hm] at d0 d1 d2
        replace d0 := cell_below hb d0
        replace d1 := cell_below hb d1
        replace d2 := cell_below hb d2
        have HR := (show Hid _ from hrow.store hlt m hm)
        clear hcc hm h0 hab
        obtain ⟨x0, g0⟩ := hrow.cell (k * 3) (by omega)
        obtain ⟨x1, g1⟩ := hrow.cell (k * 3 + 1) (by omega)
        obtain ⟨x2, g2⟩ := hrow.cell (k * 3 + 2) (by omega)
        have f0 := hrow.free (k * 3)
        have f1 := hrow.free (k * 3 + 1)
        have f2 := hrow.free (k * 3 + 2)
        go_upto_region 7 with fail
        go_region
        have hb3 := (((hb.setCell (p := ⟨w.heap.size, k * 3, none⟩) (Nat.le_refl _) (.int .i64 m.side)).setCell (p := ⟨w.heap.size, k * 3 + 1, none⟩) (Nat.le_refl _) (.string m.path)).setCell (p := ⟨w.heap.size, k * 3 + 2, none⟩) (Nat.le_refl _) (.string m.reason)).drew
        go_wp2_with fail
        go_roundw
        case rel => exact ⟨k + 1, by omega, by go_num, hb3, HR.out⟩
        case measure => simp [intOf]; omega
      · go_wp2_with fail
        go_ret
        exact ⟨_, _, rfl, hrow.full (by omega), hb⟩

end Go.Proofs.Qxb6603985aDoor
