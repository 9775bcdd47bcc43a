import Derived.Test.Qxb6602416aModel1
import Derived.Test.Qxb6602416aLawC
namespace Go.Proofs.Qxb6602416a
open Go.RowKit
set_option linter.unusedVariables false

theorem contains_take_succ (zs : List Int) (k : Nat) (y : Int) (h : k < zs.length) : (zs.take (k + 1)).contains y = ((zs.take k).contains y || (zs.getD k 0 == y)) := by
  rw [List.take_succ_eq_append_getElem h]
  have e : zs.getD k 0 = zs[k] := by simp [List.getD, h]
  rw [e]
  rw [Bool.eq_iff_iff]
  simp only [List.contains_eq_mem, List.mem_append, List.mem_singleton, Bool.or_eq_true, decide_eq_true_eq, beq_iff_eq]
  constructor
  · rintro (h | h)
    · exact .inl h
    · exact .inr h.symm
  · rintro (h | h)
    · exact .inl h
    · exact .inr h.symm

set_option maxHeartbeats 1000000 in
theorem countDistinct_any (w : World) (a : Option Addr) (n cap : Nat) (zs : List Int) (hn : zs.length = n) (hc : CellsAt (.int .i64) 0 w a zs) (hl : n ≤ 65536) :
    Calls Try.prog 16 #[.slice a n cap] w fun e w' => e = .returned (.int .i64 (distN zs zs.length : Nat)) ∧ Below w.heap.size w w' := by
  subst hn
  go_enter Try.func16, Try.ntmps16
  go_wp2
  go_loopw [3, 4, 5, 6] (fun c t _ _ wr => ∃ i : Nat, i ≤ zs.length ∧ t = .int .i64 i ∧ c = .int .i64 (distN zs i : Nat) ∧ Below w.heap.size w wr) (fun _ t _ _ _ => zs.length - (intOf t).toNat)
  case atStart => exact ⟨0, Nat.zero_le _, rfl, rfl, Below.refl _ _⟩
  case round =>
    obtain ⟨i, hi, rfl, rfl, hb⟩ := hrel
    have hdl := distN_le zs i
    by_cases hlt : i < zs.length
    · obtain ⟨b, off, rfl, hcc⟩ := hc (by omega)
      have hst : Hid (distN zs (i + 1) = distN zs i + if (zs.take i).contains (zs.getD i 0) = true then 0 else 1) := rfl
      have hci := hcc i hlt
      generalize zs.getD i 0 = y at *
      generalize distN zs i = m at *
      go_wp2_with fail
      go_loopw [5, 6] (fun s t wr => ∃ k : Nat, k ≤ i ∧ t = .int .i64 k ∧ s = .bool ((zs.take k).contains y) ∧ Below w.heap.size w wr) (fun _ t _ => i - (intOf t).toNat)
      case atStart => exact ⟨0, Nat.zero_le _, rfl, by simp, hb⟩
      case round =>
        clear hb
        obtain ⟨k, hk, rfl, rfl, hb⟩ := hrel
        by_cases hlt2 : k < i
        · have hkl : k < zs.length := by omega
          have hck := hcell_below hb (hcc k hkl)
          have hci2 := hcell_below hb hci
          have hcs := contains_take_succ zs k y hkl
          generalize zs.getD k 0 = z at *
          have HC := (show Hid _ from hcs); clear hcs
          generalize (zs.take k).contains y = bb at *
          by_cases he : (z == y) = true
          · go_wp2_with fail
            go_quiet (fail)
            go_wp2_with fail
            go_roundw
            case rel => exact ⟨k + 1, by omega, by go_num, by rw [HC.out, he]; simp, below_drewN hb _⟩
            case measure => simp [intOf]; omega
          · have he' : (z == y) = false := eq_false_of_ne_true he
            clear he
            go_wp2_with fail
            go_quiet (fail)
            go_wp2_with fail
            go_roundw
            case rel => exact ⟨k + 1, by omega, by go_num, by rw [HC.out, he']; simp, below_drewN hb _⟩
            case measure => simp [intOf]; omega
        · have hke : k = i := by omega
          subst hke
          cases hs : (zs.take k).contains y with
          | true =>
            go_wp2_with fail
            go_roundw
            case rel => exact ⟨k + 1, by omega, by go_num, by rw [hst.out, hs]; simp, hb⟩
            case measure => simp [intOf]; omega
          | false =>
            go_wp2_with fail
            go_roundw
            case rel => exact ⟨k + 1, by omega, by go_num, by rw [hst.out, hs]; go_num, hb⟩
            case measure => simp [intOf]; omega
    · have hie : i = zs.length := by omega
      subst hie
      go_wp2_with fail
      go_ret
      exact ⟨rfl, hb⟩

set_option maxHeartbeats 1000000 in
theorem nodeOfOps_any (w : World) (a ai : Option Addr) (n cap ci : Nat) (zs ids : List Int) (hn : zs.length = n) (hc : CellsAt (.int .i64) 0 w a zs) (hci : CellsAt (.int .i64) 0 w ai ids) (hl : n ≤ 65536) (hli : ids.length ≤ 65536) :
    Calls Try.prog 19 #[.slice a n cap, .slice ai ids.length ci] w fun e w' => ∃ a' c', e = .returned (.slice a' n c') ∧ CellsAt (.int .i64) 0 w' a' (zs.map (lastI ids)) ∧ Below w.heap.size w w' := by
  obtain ⟨i0, hi, hz0, hz1, hz2⟩ := info_parts Try.info3
  subst hn
  go_enter Try.func19, Try.ntmps19
  go_wp2_with (at_make; refine wpList_make_full _ rfl _ _ 22 rfl w.heap.size 3 i0 (.int .i64 0) 1 Try.underlying22 hi hz0 hz1 .i64 .i64 _ _ zs.length rfl rfl rfl rfl (by rw [hz2]; omega) (by unfold maxLen; omega) (Nat.le_refl _) ?_; intro w1 hown hgr)
  have hown' : w1.ownsRow w.heap.size 3 1 (.slice (some ⟨w.heap.size, 0, none⟩) (zs.map (lastI ids)).length (zs.map (lastI ids)).length) (zs.map (lastI ids)).length (madeCells (Value.int .i64 0).cells (zs.length * 1)).toList := by rw [List.length_map]; exact hown
  have hst := rowPart_made (f := Value.int .i64) (d := 0) (xs := zs.map (lastI ids)) hown'
  clear hown hown'
  go_loopw [6] (fun i wr => ∃ k : Nat, k ≤ zs.length ∧ i = .int .i64 k ∧ Below w.heap.size w wr ∧ RowPart (Value.int .i64) 0 wr w.heap.size 3 (zs.map (lastI ids)) k) (fun i _ => zs.length - (intOf i).toNat)
  case atStart => exact ⟨0, Nat.zero_le _, rfl, (Below.refl _ _).grown hgr (Nat.le_refl _) (fun k h => by cases h), hst⟩
  case round =>
    clear hst hgr
    obtain ⟨k, hk, rfl, hb, hrow⟩ := hrel
    by_cases hlt : k < zs.length
    · obtain ⟨b, off, rfl, hcc⟩ := hc (by omega)
      have hck := hcell_below hb (hcc k hlt)
      have hgm : (zs.map (lastI ids)).getD k 0 = lastI ids (zs.getD k 0) := by simp [List.getD, hlt]
      obtain ⟨v0, hc2⟩ := hrow.cell (by simpa using hlt)
      have hf2 := hrow.free k
      generalize zs.getD k 0 = x at *
      have HG := (show Hid _ from hgm); clear hgm hcc hc
      have hli2 := lastIndex_any wr ai ids.length ci ids x rfl (hci.below hb) hli
      go_wp2_with fail
      refine hli2.mono ?_
      rintro e w2 ⟨rfl, rfl⟩
      generalize lastI ids x = y at *
      go_wp2_with fail
      go_roundw
      case rel => exact ⟨k + 1, by omega, by go_num, hb.setCell (Nat.le_refl _) _, hrow.store (by simpa using hlt) _ (by rw [HG.out])⟩
      case measure => simp [intOf]; omega
    · go_wp2_with fail
      go_ret
      exact ⟨_, _, rfl, hrow.full (by simp; omega), hb⟩

end Go.Proofs.Qxb6602416a
