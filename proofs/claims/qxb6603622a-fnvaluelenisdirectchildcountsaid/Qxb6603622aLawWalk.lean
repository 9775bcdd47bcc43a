import Derived.Test.Qxb6603622aLaw
namespace Go.Proofs.Qxb6603622a
open Go.RowKit
set_option linter.unusedVariables false

theorem Below.next' {w w1 w2 : World} (h : Below w.heap.size w w1) (k : Below w1.heap.size w1 w2) : Below w.heap.size w w2 := h.trans (k.mono h.size)

set_option maxHeartbeats 4000000 in
set_option maxRecDepth 100000 in
theorem law_any (w : World) (ak an : Option Addr) (ck cn n m at_ : Nat) (kd : Nat → Int) (nx : Nat → Nat) (hk : FAt (fun i => .int .u8 (kd i)) w ak n) (hx : FAt (fun i => .int .u32 (nx i : Nat)) w an m) (hat : at_ < 4294967296) :
    Calls Try.prog 3 #[.slice ak n ck, .slice an m cn, .int .u32 (at_ : Nat)] w (TruePost w) := by
  have HK := (show Hid (FAt _ w ak n) from hk); clear hk
  have HX := (show Hid (FAt _ w an m) from hx); clear hx
  have h6 := zzBytes_any w ak an n m ck cn at_
  go_enter Try.func3, Try.ntmps3
  go_wp2_with (go_at_call 6; refine h6.mono ?_; clear h6; rintro e w1 ⟨bb, rfl, hb1⟩)
  all_goals try (go_ret; exact ⟨rfl, hb1⟩)
  refine (shape_any w1 ak an ck cn n m kd nx (HK.out.below hb1) (HX.out.below hb1)).mono ?_
  rintro e w2 ⟨hb2, rfl | ⟨a, ch, hmn, hn0, hn, hS, rfl, hC⟩⟩
  · have hb := Below.next' hb1 hb2
    go_wp2_with fail
    go_ret
    exact ⟨rfl, hb⟩
  · subst hmn
    replace hb2 := Below.next' hb1 hb2
    clear hb1
    have HS := (show Hid (Shaped m kd nx ch) from hS); clear hS
    have HC := (show Hid (FAt _ w2 a m) from hC); clear hC
    obtain ⟨b0, o0, rfl, hk'⟩ := HK.out (by omega)
    obtain ⟨b1, o1, rfl, hx'⟩ := HX.out (by omega)
    have HKc := (show Hid _ from hk'); clear hk'
    clear hx'
    by_cases hlt : at_ < m
    · obtain ⟨bc, oc, rfl, hcc⟩ := HC.out (by omega)
      have c0 := hcell_below hb2 (HKc.out at_ hlt)
      have c1 := hcc at_ hlt
      have hle := HS.out.2.2 at_
      clear hcc
      have hbd := buildDoc w2 _ _ ck cn m kd nx (HK.out.below hb2) (HX.out.below hb2) hn0 hn
      go_wp2_with fail
      refine hbd.mono ?_
      clear hbd
      rintro e w3 ⟨D, nb, cap, rfl, hD, hb3⟩
      have HD := (show Hid _ from hD); clear hD
      replace c0 := hcell_below hb3 c0
      replace c1 := hcell_below hb3 c1
      replace hb3 := Below.next' hb2 hb3
      have hk1 := (HS.out.1 at_ hlt).1
      have HL := (show Hid _ from fun W h => len_at D nb cap m at_ kd nx W (want kd ch at_ : Nat) hn hlt hk1 h (fun W' h' => count_any D nb cap m at_ kd nx ch hn hlt HS.out W' h'))
      clear hb2
      by_cases h5 : kd at_ = 5
      · have e : want kd ch at_ = ch at_ := by simp [want, h5]
        rw [e] at HL
        rw [h5] at c0
        go_wp2_with fail
        refine (valueAt_any w3 D at_).mono ?_
        rintro e w4 ⟨rfl, hb4⟩
        have hL4 := HL.out w4 ((HD.out.below hb4).up hb4.size)
        replace hb4 := Below.next' hb3 hb4
        go_wp2_with fail
        refine hL4.mono ?_
        rintro e w5 ⟨rfl, hb5⟩
        replace hb5 := Below.next' hb4 hb5
        go_wp2_with fail
        refine (len_zero w5).mono ?_
        rintro e w6 ⟨rfl, hb6⟩
        replace hb6 := Below.next' hb5 hb6
        go_wp2_with fail
        go_ret
        exact ⟨by simp, hb6⟩
      · have e5 : (kd at_ == 5) = false := by simpa using h5
        by_cases h6 : kd at_ = 6
        · have e : want kd ch at_ = ch at_ / 2 := by simp [want, h6]
          rw [e] at HL
          clear h5 e5
          rw [h6] at c0
          go_wp2_with fail
          refine (valueAt_any w3 D at_).mono ?_
          rintro e w4 ⟨rfl, hb4⟩
          have hL4 := HL.out w4 ((HD.out.below hb4).up hb4.size)
          replace hb4 := Below.next' hb3 hb4
          go_wp2_with fail
          have e2 : ((ch at_ / 2 : Nat) : Int) = (ch at_ : Int) / 2 := by omega
          rw [e2] at hL4
          clear e2
          refine hL4.mono ?_
          rintro e w5 ⟨rfl, hb5⟩
          replace hb5 := Below.next' hb4 hb5
          go_wp2_with fail
          refine (len_zero w5).mono ?_
          rintro e w6 ⟨rfl, hb6⟩
          replace hb6 := Below.next' hb5 hb6
          go_wp2_with fail
          go_ret
          exact ⟨by simp, hb6⟩
        · have e6 : (kd at_ == 6) = false := by simpa using h6
          have e : want kd ch at_ = 0 := by simp [want, h5, h6]
          rw [e] at HL
          go_wp2_with fail
          refine (valueAt_any w3 D at_).mono ?_
          rintro e w4 ⟨rfl, hb4⟩
          have hL4 := HL.out w4 ((HD.out.below hb4).up hb4.size)
          replace hb4 := Below.next' hb3 hb4
          go_wp2_with fail
          refine hL4.mono ?_
          rintro e w5 ⟨rfl, hb5⟩
          replace hb5 := Below.next' hb4 hb5
          go_wp2_with fail
          refine (len_zero w5).mono ?_
          rintro e w6 ⟨rfl, hb6⟩
          replace hb6 := Below.next' hb5 hb6
          go_wp2_with fail
          go_ret
          exact ⟨by simp, hb6⟩
    · go_wp2_with fail
      go_ret
      exact ⟨rfl, hb2⟩

end Go.Proofs.Qxb6603622a
