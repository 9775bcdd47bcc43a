import Derived.Test.Qxb6602416aBase
namespace Go.Proofs.Qxb6602416a
open Go.RowKit

set_option maxHeartbeats 400000 in
theorem cloneInts_any (w : World) (a : Option Addr) (cap : Nat) (zs : List Int) (hc : CellsAt (Value.int .i64) 0 w a zs) (hl : zs.length ≤ 65536) :
    Calls Try.prog 9 #[.slice a zs.length cap] w fun e w' => ∃ a' c', e = .returned (.slice a' zs.length c') ∧ CellsAt (Value.int .i64) 0 w' a' zs ∧ Below w.heap.size w w' := by
  obtain ⟨i0, hi, hz0, hz1, hz2⟩ := info_parts Try.info3
  have qn : ∀ (w : World) (a : Option Addr) (n c n' c' : Nat), (binOp .eql 22 (.slice a n c) (.slice none n' c')).run Try.prog w = .ok (.bool a.isNone) w := fun w a n c n' c' => Lib.run_eql_slice_nil w _ _ a n c n' c' Try.underlying22
  by_cases ha : a.isNone = true
  · have h0 : zs.length = 0 := by
      rcases Nat.eq_zero_or_pos zs.length with h | h
      · exact h
      · obtain ⟨b, off, rfl, _⟩ := hc h; simp at ha
    go_enter Try.func9, Try.ntmps9
    go_wp2
    go_ret
    exact ⟨none, 0, by simp [h0], fun h => by omega, Below.refl _ _⟩
  · have ha' : a.isNone = false := eq_false_of_ne_true ha
    clear ha
    go_enter Try.func9, Try.ntmps9
    go_wp2_with (at_make; refine wpList_make_full _ rfl _ _ 22 rfl w.heap.size 3 i0 (.int .i64 0) 1 Try.underlying22 hi hz0 hz1 .i64 .i64 _ _ zs.length rfl rfl rfl rfl (by rw [hz2]; omega) (by unfold maxLen; omega) (Nat.le_refl _) ?_; intro w1 hown hgr)
    go_loopw [4] (fun i wr => ∃ k : Nat, k ≤ zs.length ∧ i = .int .i64 k ∧ Below w.heap.size w wr ∧ RowPart (Value.int .i64) 0 wr w.heap.size 3 zs k) (fun i _ => zs.length - (intOf i).toNat)
    case atStart => exact ⟨0, Nat.zero_le _, rfl, (Below.refl _ _).grown hgr (Nat.le_refl _) (fun k h => by cases h), rowPart_made hown⟩
    case round =>
      obtain ⟨k, hk, rfl, hb, hrow⟩ := hrel
      by_cases hlt : k < zs.length
      · obtain ⟨b, off, rfl, hcc⟩ := hc (by omega)
        have hc1 : wr.cell? ⟨b, off + k, none⟩ = some ((Value.int .i64) (zs.getD k 0)) := hcell_below hb (hcc k hlt)
        obtain ⟨v0, hc2⟩ := hrow.cell hlt
        have hf2 := hrow.free k
        go_wp2
        go_roundw
        case rel => exact ⟨k + 1, by omega, by go_num, hb.setCell (Nat.le_refl _) _, hrow.store hlt _ (by simp [hlt])⟩
        case measure => simp [intOf]; omega
      · go_wp2
        go_ret
        exact ⟨_, _, rfl, (hrow.full (by omega)), hb⟩

set_option maxHeartbeats 400000 in
theorem cloneStrings_any (w : World) (a : Option Addr) (cap : Nat) (zs : List ByteArray) (hc : CellsAt Value.string ByteArray.empty w a zs) (hl : zs.length ≤ 65536) :
    Calls Try.prog 10 #[.slice a zs.length cap] w fun e w' => ∃ a' c', e = .returned (.slice a' zs.length c') ∧ CellsAt Value.string ByteArray.empty w' a' zs ∧ Below w.heap.size w w' := by
  obtain ⟨i0, hi, hz0, hz1, hz2⟩ := info_parts Try.info9
  have qn : ∀ (w : World) (a : Option Addr) (n c n' c' : Nat), (binOp .eql 23 (.slice a n c) (.slice none n' c')).run Try.prog w = .ok (.bool a.isNone) w := fun w a n c n' c' => Lib.run_eql_slice_nil w _ _ a n c n' c' Try.underlying23
  by_cases ha : a.isNone = true
  · have h0 : zs.length = 0 := by
      rcases Nat.eq_zero_or_pos zs.length with h | h
      · exact h
      · obtain ⟨b, off, rfl, _⟩ := hc h; simp at ha
    go_enter Try.func10, Try.ntmps10
    go_wp2
    go_ret
    exact ⟨none, 0, by simp [h0], fun h => by omega, Below.refl _ _⟩
  · have ha' : a.isNone = false := eq_false_of_ne_true ha
    clear ha
    go_enter Try.func10, Try.ntmps10
    go_wp2_with (at_make; refine wpList_make_full _ rfl _ _ 23 rfl w.heap.size 9 i0 (.string ByteArray.empty) 1 Try.underlying23 hi hz0 hz1 .i64 .i64 _ _ zs.length rfl rfl rfl rfl (by rw [hz2]; omega) (by unfold maxLen; omega) (Nat.le_refl _) ?_; intro w1 hown hgr)
    go_loopw [4] (fun i wr => ∃ k : Nat, k ≤ zs.length ∧ i = .int .i64 k ∧ Below w.heap.size w wr ∧ RowPart Value.string ByteArray.empty wr w.heap.size 9 zs k) (fun i _ => zs.length - (intOf i).toNat)
    case atStart => exact ⟨0, Nat.zero_le _, rfl, (Below.refl _ _).grown hgr (Nat.le_refl _) (fun k h => by cases h), rowPart_made hown⟩
    case round =>
      obtain ⟨k, hk, rfl, hb, hrow⟩ := hrel
      by_cases hlt : k < zs.length
      · obtain ⟨b, off, rfl, hcc⟩ := hc (by omega)
        have hc1 : wr.cell? ⟨b, off + k, none⟩ = some (Value.string (zs.getD k ByteArray.empty)) := hcell_below hb (hcc k hlt)
        obtain ⟨v0, hc2⟩ := hrow.cell hlt
        have hf2 := hrow.free k
        go_wp2
        go_roundw
        case rel => exact ⟨k + 1, by omega, by go_num, hb.setCell (Nat.le_refl _) _, hrow.store hlt _ (by simp [hlt])⟩
        case measure => simp [intOf]; omega
      · go_wp2
        go_ret
        exact ⟨_, _, rfl, (hrow.full (by omega)), hb⟩

set_option maxHeartbeats 400000 in
theorem cloneBytes_any (w : World) (a : Option Addr) (cap : Nat) (zs : List Int) (hc : CellsAt (Value.int .u8) 0 w a zs) (hl : zs.length ≤ 65536) :
    Calls Try.prog 11 #[.slice a zs.length cap] w fun e w' => ∃ a' c', e = .returned (.slice a' zs.length c') ∧ CellsAt (Value.int .u8) 0 w' a' zs ∧ Below w.heap.size w w' := by
  obtain ⟨i0, hi, hz0, hz1, hz2⟩ := info_parts Try.info5
  have qn : ∀ (w : World) (a : Option Addr) (n c n' c' : Nat), (binOp .eql 24 (.slice a n c) (.slice none n' c')).run Try.prog w = .ok (.bool a.isNone) w := fun w a n c n' c' => Lib.run_eql_slice_nil w _ _ a n c n' c' Try.underlying24
  by_cases ha : a.isNone = true
  · have h0 : zs.length = 0 := by
      rcases Nat.eq_zero_or_pos zs.length with h | h
      · exact h
      · obtain ⟨b, off, rfl, _⟩ := hc h; simp at ha
    go_enter Try.func11, Try.ntmps11
    go_wp2
    go_ret
    exact ⟨none, 0, by simp [h0], fun h => by omega, Below.refl _ _⟩
  · have ha' : a.isNone = false := eq_false_of_ne_true ha
    clear ha
    go_enter Try.func11, Try.ntmps11
    go_wp2_with (at_make; refine wpList_make_full _ rfl _ _ 24 rfl w.heap.size 5 i0 (.int .u8 0) 1 Try.underlying24 hi hz0 hz1 .i64 .i64 _ _ zs.length rfl rfl rfl rfl (by rw [hz2]; omega) (by unfold maxLen; omega) (Nat.le_refl _) ?_; intro w1 hown hgr)
    go_loopw [4] (fun i wr => ∃ k : Nat, k ≤ zs.length ∧ i = .int .i64 k ∧ Below w.heap.size w wr ∧ RowPart (Value.int .u8) 0 wr w.heap.size 5 zs k) (fun i _ => zs.length - (intOf i).toNat)
    case atStart => exact ⟨0, Nat.zero_le _, rfl, (Below.refl _ _).grown hgr (Nat.le_refl _) (fun k h => by cases h), rowPart_made hown⟩
    case round =>
      obtain ⟨k, hk, rfl, hb, hrow⟩ := hrel
      by_cases hlt : k < zs.length
      · obtain ⟨b, off, rfl, hcc⟩ := hc (by omega)
        have hc1 : wr.cell? ⟨b, off + k, none⟩ = some ((Value.int .u8) (zs.getD k 0)) := hcell_below hb (hcc k hlt)
        obtain ⟨v0, hc2⟩ := hrow.cell hlt
        have hf2 := hrow.free k
        go_wp2
        go_roundw
        case rel => exact ⟨k + 1, by omega, by go_num, hb.setCell (Nat.le_refl _) _, hrow.store hlt _ (by simp [hlt])⟩
        case measure => simp [intOf]; omega
      · go_wp2
        go_ret
        exact ⟨_, _, rfl, (hrow.full (by omega)), hb⟩

set_option maxHeartbeats 400000 in
theorem cloneBools_any (w : World) (a : Option Addr) (cap : Nat) (zs : List Bool) (hc : CellsAt Value.bool false w a zs) (hl : zs.length ≤ 65536) :
    Calls Try.prog 12 #[.slice a zs.length cap] w fun e w' => ∃ a' c', e = .returned (.slice a' zs.length c') ∧ CellsAt Value.bool false w' a' zs ∧ Below w.heap.size w w' := by
  obtain ⟨i0, hi, hz0, hz1, hz2⟩ := info_parts Try.info4
  have qn : ∀ (w : World) (a : Option Addr) (n c n' c' : Nat), (binOp .eql 25 (.slice a n c) (.slice none n' c')).run Try.prog w = .ok (.bool a.isNone) w := fun w a n c n' c' => Lib.run_eql_slice_nil w _ _ a n c n' c' Try.underlying25
  by_cases ha : a.isNone = true
  · have h0 : zs.length = 0 := by
      rcases Nat.eq_zero_or_pos zs.length with h | h
      · exact h
      · obtain ⟨b, off, rfl, _⟩ := hc h; simp at ha
    go_enter Try.func12, Try.ntmps12
    go_wp2
    go_ret
    exact ⟨none, 0, by simp [h0], fun h => by omega, Below.refl _ _⟩
  · have ha' : a.isNone = false := eq_false_of_ne_true ha
    clear ha
    go_enter Try.func12, Try.ntmps12
    go_wp2_with (at_make; refine wpList_make_full _ rfl _ _ 25 rfl w.heap.size 4 i0 (.bool false) 1 Try.underlying25 hi hz0 hz1 .i64 .i64 _ _ zs.length rfl rfl rfl rfl (by rw [hz2]; omega) (by unfold maxLen; omega) (Nat.le_refl _) ?_; intro w1 hown hgr)
    go_loopw [4] (fun i wr => ∃ k : Nat, k ≤ zs.length ∧ i = .int .i64 k ∧ Below w.heap.size w wr ∧ RowPart Value.bool false wr w.heap.size 4 zs k) (fun i _ => zs.length - (intOf i).toNat)
    case atStart => exact ⟨0, Nat.zero_le _, rfl, (Below.refl _ _).grown hgr (Nat.le_refl _) (fun k h => by cases h), rowPart_made hown⟩
    case round =>
      obtain ⟨k, hk, rfl, hb, hrow⟩ := hrel
      by_cases hlt : k < zs.length
      · obtain ⟨b, off, rfl, hcc⟩ := hc (by omega)
        have hc1 : wr.cell? ⟨b, off + k, none⟩ = some (Value.bool (zs.getD k false)) := hcell_below hb (hcc k hlt)
        obtain ⟨v0, hc2⟩ := hrow.cell hlt
        have hf2 := hrow.free k
        go_wp2
        go_roundw
        case rel => exact ⟨k + 1, by omega, by go_num, hb.setCell (Nat.le_refl _) _, hrow.store hlt _ (by simp [hlt])⟩
        case measure => simp [intOf]; omega
      · go_wp2
        go_ret
        exact ⟨_, _, rfl, (hrow.full (by omega)), hb⟩

end Go.Proofs.Qxb6602416a
