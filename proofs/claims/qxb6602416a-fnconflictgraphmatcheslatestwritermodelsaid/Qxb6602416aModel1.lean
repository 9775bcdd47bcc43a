import Derived.Test.Qxb6602416aAcyc
import Derived.Test.Qxb6602416aCount
namespace Go.Proofs.Qxb6602416a
open Go.RowKit
set_option linter.unusedVariables false

set_option maxHeartbeats 1000000 in
theorem committedIDs_any (w : World) (a0 a1 : Option Addr) (c0 c1 : Nat) (ts : List (Int × Int)) (h0 : CellsAt (Value.int .i64) 0 w a0 (ts.map (·.1))) (h1 : CellsAt (Value.int .u8) 0 w a1 (ts.map (·.2))) (hl : ts.length ≤ 4096) :
    Calls Try.prog 14 #[.slice a0 ts.length c0, .slice a1 ts.length c1] w fun e w' => ∃ a cap, e = .returned (.slice a (Plain.cids ts).length cap) ∧ CellsAt (Value.int .i64) 0 w' a (Plain.cids ts) ∧ Below w.heap.size w w' := by
  obtain ⟨i0, hi, hz0, hz1, hz2⟩ := info_parts Try.info3
  go_enter Try.func14, Try.ntmps14
  go_wp2
  go_loopw [5, 6] (fun v t wr => ∃ k : Nat, k ≤ ts.length ∧ t = .int .i64 k ∧ Below w.heap.size w wr ∧ wr.ownsRow w.heap.size 3 1 v (Plain.cids (ts.take k)).length ((Plain.cids (ts.take k)).map (Value.int .i64))) (fun _ t _ => ts.length - (intOf t).toNat)
  case atStart => exact ⟨0, Nat.zero_le _, rfl, Below.refl _ _, World.ownsRow_nil _ _ _ _⟩
  case round =>
    obtain ⟨k, hk, rfl, hb, hq⟩ := hrel
    obtain ⟨aq, cq, rfl, hqc⟩ := owns_form hq
    have hbs := hb.size
    by_cases hlt : k < ts.length
    · clear hqc
      obtain ⟨b0, o0, rfl, r0⟩ := h0 (by simp; omega)
      obtain ⟨b1, o1, rfl, r1⟩ := h1 (by simp; omega)
      replace r0 := hcell_below hb (r0 k (by simp; omega))
      replace r1 := hcell_below hb (r1 k (by simp; omega))
      have e0 : (ts.map (·.1)).getD k 0 = (ts.getD k (0, 0)).1 := getD_map (·.1) ts k (0, 0)
      have e1 : (ts.map (·.2)).getD k 0 = (ts.getD k (0, 0)).2 := getD_map (·.2) ts k (0, 0)
      rw [e0] at r0
      rw [e1] at r1
      clear e0 e1 h0 h1
      have hstep := Plain.cids_take_succ ts k hlt
      obtain ⟨⟨x, st⟩, hxs⟩ : ∃ p, ts.getD k (0, 0) = p := ⟨_, rfl⟩
      rw [hxs] at r0 r1 hstep
      simp only at r0 r1 hstep
      have HS := (show Hid _ from hstep); clear hstep hxs
      have hkl : (Plain.cids (ts.take k)).length ≤ 4096 := by have := Plain.cids_le (ts.take k); simp at this; omega
      by_cases hs : (st == 1) = true
      · have HS2 : Hid (Plain.cids (ts.take (k + 1)) = Plain.cids (ts.take k) ++ [x]) := by have := HS.out; rw [if_pos (by simpa using hs)] at this; exact this
        go_wp2_with (at_builtin; refine wpList_append_lies _ rfl _ _ 22 rfl w.heap.size 3 i0 (.int .i64 0) 1 8 Try.underlying22 hi hz0 hz1 hz2 rfl (by decide) (.slice aq (Plain.cids (ts.take k)).length cq) (Plain.cids (ts.take k)).length ((Plain.cids (ts.take k)).map (Value.int .i64)) rfl (by exact hq.alloc _) ⟨wr.heap.size, 0, none⟩ 1 1 [.int .i64 x] rfl rfl (by exact cell_one_new _ _ _) (ints_oneCell .i64 [x]) (by decide) (by unfold maxLen; omega) (by omega) (by simp; omega) (wr.heap.size + 1) (by simp) ?_; intro g cp w3 hown hgrow hat hl3)
        have hq' : wr.ownsRow w.heap.size 3 1 (.slice aq (Plain.cids (ts.take k)).length cq) ((Plain.cids (ts.take k)).map (Value.int .i64)).length ((Plain.cids (ts.take k)).map (Value.int .i64)) := by rw [List.length_map]; exact hq
        go_roundw
        case rel => exact ⟨k + 1, by omega, by go_num, grown_below2 hb (Nat.le_refl _) hbs hq' _ hgrow, by rw [HS2.out]; simpa using hown⟩
        case measure => simp [intOf]; omega
      · have hs' : (st == 1) = false := eq_false_of_ne_true hs
        have HS2 : Hid (Plain.cids (ts.take (k + 1)) = Plain.cids (ts.take k)) := by have := HS.out; rw [if_neg (by simpa using hs'), List.append_nil] at this; exact this
        clear hs
        go_wp2_with fail
        go_roundw
        case rel => exact ⟨k + 1, by omega, by go_num, hb, by rw [HS2.out]; exact hq⟩
        case measure => simp [intOf]; omega
    · have hke : ts.take k = ts := List.take_of_length_le (by omega)
      rw [hke] at hqc ⊢
      go_wp2
      go_ret
      exact ⟨_, _, rfl, hqc, hb⟩

/-- 'It answers whether xs and ys are one list.' -/
def EqPost (w : World) (xs ys : List Int) (e : Ending) (w' : World) : Prop := e = .returned (.bool (decide (xs = ys))) ∧ Below w.heap.size w w'

set_option maxHeartbeats 1000000 in
theorem equalInts_any (w : World) (a0 a1 : Option Addr) (n0 n1 c0 c1 : Nat) (xs ys : List Int) (hn0 : xs.length = n0) (hn1 : ys.length = n1) (h0 : CellsAt (Value.int .i64) 0 w a0 xs) (h1 : CellsAt (Value.int .i64) 0 w a1 ys) (hl : n0 ≤ 100000000) :
    Calls Try.prog 15 #[.slice a0 n0 c0, .slice a1 n1 c1] w (EqPost w xs ys) := by
  by_cases hlen : n0 = n1
  · subst hlen
    subst hn0
    go_enter Try.func15, Try.ntmps15
    go_wp2
    go_loopw [4, 5] (fun _ t wr => ∃ k : Nat, k ≤ xs.length ∧ t = .int .i64 k ∧ Below w.heap.size w wr ∧ ∀ i, i < k → xs.getD i 0 = ys.getD i 0) (fun _ t _ => xs.length - (intOf t).toNat)
    case atStart => exact ⟨0, Nat.zero_le _, rfl, Below.refl _ _, fun i hi => by omega⟩
    case round =>
      obtain ⟨k, hk, rfl, hb, hall⟩ := hrel
      have HA := (show Hid _ from hall); clear hall
      by_cases hlt : k < xs.length
      · obtain ⟨b0, o0, rfl, r0⟩ := h0 (by omega)
        obtain ⟨b1, o1, rfl, r1⟩ := h1 (by omega)
        replace r0 := hcell_below hb (r0 k hlt)
        replace r1 := hcell_below hb (r1 k (by omega))
        obtain ⟨x, hx⟩ : ∃ x, xs.getD k 0 = x := ⟨_, rfl⟩
        obtain ⟨y, hy⟩ : ∃ y, ys.getD k 0 = y := ⟨_, rfl⟩
        rw [hx] at r0
        rw [hy] at r1
        have HX := (show Hid _ from hx); have HY := (show Hid _ from hy)
        clear hx hy h0 h1
        by_cases he : (x != y) = true
        · go_wp2
          go_quiet (fail)
          go_wp2
          go_ret
          have hne : xs ≠ ys := fun e => by
            have : x ≠ y := by simpa using he
            apply this; rw [← HX.out, ← HY.out, e]
          have hd : decide (xs = ys) = false := decide_eq_false hne
          exact ⟨by rw [hd]; rfl, below_drewN hb _⟩
        · have he' : (x != y) = false := eq_false_of_ne_true he
          clear he
          go_wp2
          go_quiet (fail)
          go_wp2
          go_roundw
          case rel =>
            refine ⟨k + 1, by omega, by go_num, below_drewN hb _, fun i hi => ?_⟩
            rcases Nat.lt_succ_iff_lt_or_eq.1 hi with h | h
            · exact HA.out i h
            · subst h
              rw [HX.out, HY.out]; simpa using he'
          case measure => simp [intOf]; omega
      · go_wp2
        go_ret
        have heq : xs = ys := List.ext_getElem? (fun i => by
          by_cases hi : i < xs.length
          · have := HA.out i (by omega)
            rw [List.getD_eq_getElem?_getD, List.getD_eq_getElem?_getD] at this
            rw [List.getElem?_eq_getElem hi, List.getElem?_eq_getElem (by omega : i < ys.length)] at this ⊢
            simpa using this
          · rw [List.getElem?_eq_none (by omega), List.getElem?_eq_none (by omega)])
        have hd : decide (xs = ys) = true := decide_eq_true heq
        exact ⟨by rw [hd]; rfl, hb⟩
  · have hne : xs ≠ ys := fun e => hlen (by rw [← hn0, ← hn1, e])
    have hd : decide (xs = ys) = false := decide_eq_false hne
    have hlen' : ((n0 : Int) != (n1 : Int)) = true := by simp; omega
    clear hlen
    go_enter Try.func15, Try.ntmps15
    go_wp2
    go_ret
    exact ⟨by rw [hd]; rfl, Below.refl _ _⟩

end Go.Proofs.Qxb6602416a
