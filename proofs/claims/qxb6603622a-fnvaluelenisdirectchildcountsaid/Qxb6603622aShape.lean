import Derived.Test.Qxb6603622aShapeW
namespace Go.Proofs.Qxb6603622a
open Go.RowKit
set_option linter.unusedVariables false

set_option maxHeartbeats 8000000 in
set_option maxRecDepth 100000 in
theorem shape_any (w : World) (ak an : Option Addr) (ck cn n m : Nat) (kd : Nat → Int) (nx : Nat → Nat) (hk : FAt (fun i => .int .u8 (kd i)) w ak n) (hx : FAt (fun i => .int .u32 (nx i : Nat)) w an m) :
    Calls Try.prog 7 #[.slice ak n ck, .slice an m cn] w (ShapePost w n kd nx m) := by
  obtain ⟨i0, hi, hz0, hz1, hz2⟩ := info_parts info3
  by_cases hg : n ≠ 0 ∧ n ≤ 65536 ∧ n = m
  case neg =>
    by_cases hn0 : n = 0
    · subst hn0
      go_enter Try.func7, Try.ntmps7
      go_wp2_with fail
      go_ret2
      exact ShapePost.no (Below.refl _ _)
    · by_cases hn : n ≤ 65536
      · have hne : n ≠ m := fun e => hg ⟨hn0, hn, e⟩
        have hm0 : ((n : Int) == 0) = false := by simp; omega
        have hm1 : ((m : Int) != n) = true := by simp; omega
        have HG := (show Hid _ from hg); clear hg
        go_enter Try.func7, Try.ntmps7
        go_wp2_with fail
        all_goals (go_ret2; exact ShapePost.no (Below.refl _ _))
      · have hm0 : ((n : Int) == 0) = false := by simp; omega
        have HG := (show Hid _ from hg); clear hg
        go_enter Try.func7, Try.ntmps7
        go_wp2_with fail
        all_goals (go_ret2; exact ShapePost.no (Below.refl _ _))
  case pos =>
    obtain ⟨hn0, hn, rfl⟩ := hg
    obtain ⟨b0, o0, rfl, hk'⟩ := hk (by omega)
    obtain ⟨b1, o1, rfl, hx'⟩ := hx (by omega)
    clear hk hx
    have HK := (show Hid _ from hk'); clear hk'
    have HX := (show Hid _ from hx')
    have x0 := hx' 0 (by omega)
    rw [Nat.add_zero] at x0
    have hm0 : ((n : Int) == 0) = false := by simp; omega
    clear hx'
    go_enter Try.func7, Try.ntmps7
    go_wp2_with (first
      | (at_make; refine wpList_make_full _ rfl (.tmp 36) (.tmp 36) 26 rfl w.heap.size 3 i0 _ 1 Try.underlying26 hi hz0 hz1 .i64 .i64 _ _ n rfl rfl rfl rfl (by rw [hz2]; omega) (by unfold maxLen; omega) (Nat.le_refl _) ?_; intro w1 hC hgC)
      | (at_make; refine wpList_make_own _ rfl _ (.tmp 38) 26 rfl w.heap.size 3 i0 _ 1 Try.underlying26 hi hz0 hz1 .i64 .i64 _ n rfl rfl rfl (by rw [hz2]; omega) (by unfold maxLen; omega) (by have := hgC.size; omega) ?_; intro w2 hS hgS))
    all_goals try (go_ret2; exact ShapePost.no (Below.refl _ _))
    have hW0 := ShW.start rfl hC hgC hS hgS
    generalize w1.heap.size = S at *
    clear hC hgC hS hgS
    go_loopw [4, 5, 8, 9, 10, 11, 12, 13, 14] (fun _ _ s i _ _ _ _ _ wr => ∃ (k : Nat) (st : List Nat) (ch : Nat → Nat), k ≤ n ∧ i = .int .i64 k ∧ s = .slice (some ⟨S, 0, none⟩) st.length n ∧ PInv n kd nx k st ch ∧ ShW w wr S n st ch) (fun _ _ _ i _ _ _ _ _ _ => n - (intOf i).toNat)
    case atStart => exact ⟨0, [], _, Nat.zero_le _, rfl, rfl, PInv.start, hW0⟩
    case round =>
      clear hW0
      obtain ⟨k, st, ch, hk, rfl, rfl, hP, hW⟩ := hrel
      have HP := (show Hid _ from hP); clear hP
      have HW := (show Hid _ from hW); clear hW
      by_cases hlt : k < n
      · have c0 := hcell_below HW.out.bel (HK.out k hlt)
        have c1 := hcell_below HW.out.bel (HX.out k hlt)
        go_upto_region 17 with fail
        all_goals try (go_ret2; exact ShapePost.no HW.out.bel)
        have f1 : 1 ≤ kd k := by omega
        have f2 : kd k ≤ 6 := by omega
        have f3 : k < nx k := by omega
        have f4 : nx k ≤ n := by omega
        go_cut [12] (fun h wx => h = .bool (decide (kd k = 5 ∨ kd k = 6)) ∧ wr = wx)
        case first =>
          by_cases h5 : kd k = 5
          · rw [h5] at c0
            have e5 : decide (kd k = 5 ∨ kd k = 6) = true := by simp [h5]
            have HE := (show Hid _ from e5)
            go_wp2_with fail
            go_meet
            case rel => exact ⟨by rw [HE.out], rfl⟩
          · have e5 : (kd k == 5) = false := by simpa using h5
            by_cases h6 : kd k = 6
            · have e6 : decide (kd k = 5 ∨ kd k = 6) = true := by simp [h6]
              have HE := (show Hid _ from e6)
              clear h5 e6
              rw [h6] at c0
              go_wp2_with fail
              go_meet
              case rel => exact ⟨by rw [HE.out], rfl⟩
            · have e7 : (kd k == 6) = false := by simpa using h6
              have e6 : decide (kd k = 5 ∨ kd k = 6) = false := by simp [h5, h6]
              have HE := (show Hid _ from e6)
              clear h5 h6 e6
              go_wp2_with fail
              go_meet
              case rel => exact ⟨by rw [HE.out], rfl⟩
        case rest =>
          obtain ⟨rfl, rfl⟩ := hcut
          obtain ⟨hb, hhb⟩ : ∃ hb, decide (kd k = 5 ∨ kd k = 6) = hb := ⟨_, rfl⟩
          rw [hhb]
          have HH := (show Hid _ from hhb); clear hhb
          go_upto_region 18 with fail
          go_cut [83] (fun c wx => c = .bool (!hb && decide (nx k ≠ k + 1)) ∧ wr = wx)
          case first =>
            cases hb
            · go_wp2_with fail
              go_meet
              case rel => exact ⟨by congr 1; rw [Bool.eq_iff_iff]; simp; omega, rfl⟩
            · go_wp2_with fail
              go_meet
              case rel => exact ⟨by simp, rfl⟩
          case rest =>
            obtain ⟨rfl, rfl⟩ := hcut
            obtain ⟨bad, hbad⟩ : ∃ bad, (!hb && decide (nx k ≠ k + 1)) = bad := ⟨_, rfl⟩
            rw [hbad]
            have HB := (show Hid _ from hbad); clear hbad
            go_upto_block 2 with fail
            · go_ret2; exact ShapePost.no HW.out.bel
            have hbd : bad = false := by assumption
            have HSC : Hid (hb = false → nx k = k + 1) := fun e => by
              have h3 := HB.out
              rw [hbd, e] at h3
              simpa using h3
            clear HB hbd
            go_cut [4, 5, 8, 13] (fun _ _ s _ wx => ∃ st2 : List Nat, s = .slice (some ⟨S, 0, none⟩) st2.length n ∧ wr = wx ∧ PInv n kd nx k st2 ch ∧ ShW w wr S n st2 ch ∧ ∀ t r, st2 = t :: r → k < nx t)
            case first =>
              go_wp2_with fail
              go_loopw [4, 5, 8, 13] (fun _ _ s _ wr2 => ∃ st2 : List Nat, s = .slice (some ⟨S, 0, none⟩) st2.length n ∧ wr2 = wr ∧ PInv n kd nx k st2 ch ∧ ShW w wr S n st2 ch) (fun _ _ s _ _ => lenOf s)
              case atStart => exact ⟨st, rfl, rfl, HP.out, HW.out⟩
              case round =>
                clear HP HW
                obtain ⟨st2, rfl, rfl, hP2, hW2⟩ := hrel
                have HP2 := (show Hid _ from hP2); clear hP2
                have HW2 := (show Hid _ from hW2); clear hW2
                cases st2 with
                | nil =>
                  simp only [List.length_nil]
                  go_wp2_with fail
                  go_meet
                  case rel => exact ⟨[], rfl, rfl, HP2.out, HW2.out, fun t r e => by cases e⟩
                | cons t r =>
                  have htk : t < k := HP2.out.lt t (by simp)
                  have hlen := HP2.out.len
                  simp only [List.length_cons] at hlen ⊢
                  have hchl := HP2.out.le t
                  have d1 := HW2.out.top
                  have d2 := hcell_below HW2.out.bel (HX.out t (by omega))
                  have d3 := hcell_below HW2.out.bel (HK.out t (by omega))
                  obtain ⟨d4, d5⟩ := HW2.out.child (t := t) (by omega)
                  by_cases hpop : nx t ≤ k
                  · by_cases h6 : kd t = 6
                    · rw [h6] at d3
                      go_wp2_with fail
                      · go_ret2; exact ShapePost.no HW2.out.bel
                      rename_i hpar
                      have hev : ch t % 2 = 0 := by simp at hpar; omega
                      go_roundw
                      case rel => exact ⟨r, rfl, trivial, HP2.out.pop hpop (fun _ => hev), HW2.out.pop⟩
                      case measure => simp [lenOf]
                    · have e6 : (kd t == 6) = false := by simpa using h6
                      go_wp2_with fail
                      go_roundw
                      case rel => exact ⟨r, rfl, trivial, HP2.out.pop hpop (fun e => absurd e h6), HW2.out.pop⟩
                      case measure => simp [lenOf]
                  · go_wp2_with fail
                    go_meet
                    case rel => exact ⟨t :: r, rfl, rfl, HP2.out, HW2.out, fun t' r' e => by injection e with e1 e2; subst e1; omega⟩
            case rest =>
              clear HP HW
              obtain ⟨st2, rfl, rfl, hP2, hW2, htop⟩ := hcut
              have HT := (show Hid _ from htop); clear htop
              have HP2 := (show Hid _ from hP2); clear hP2
              have HW2 := (show Hid _ from hW2); clear hW2
              have hOk : Hid (Ok1 n kd nx k) := ⟨f1, f2, f3, f4, fun a b => HSC.out (by rw [← HH.out]; simp [a, b])⟩
              go_upto_if 127 with fail
              go_cut [4, 5, 14] (fun _ _ _ wx => ∃ ch2, (¬ Holds kd k → PInv n kd nx (k + 1) st2 ch2) ∧ (Holds kd k → PInv n kd nx (k + 1) (k :: st2) ch2) ∧ ShW w wx S n st2 ch2)
              case first =>
                cases st2 with
                | nil =>
                  by_cases hk0 : k = 0
                  · have e0 : ((k : Int) != 0) = false := by simp; omega
                    have HR := (show Hid _ from HP2.out.root' hk0 hOk.out)
                    have HK0 := (show Hid _ from hk0); clear hk0
                    simp only [List.length_nil]
                    go_wp2_with fail
                    go_meet
                    case rel => exact ⟨ch, HR.out.1, HR.out.2, HW2.out⟩
                  · have e0 : ((k : Int) != 0) = true := by simp; omega
                    simp only [List.length_nil]
                    go_wp2_with fail
                    go_ret2; exact ShapePost.no HW2.out.bel
                | cons t r =>
                  have htk : t < k := HP2.out.lt t (by simp)
                  have hlen := HP2.out.len
                  simp only [List.length_cons] at hlen ⊢
                  have hchl := HP2.out.le t
                  have d1 := HW2.out.top
                  have d2 := hcell_below HW2.out.bel (HX.out t (by omega))
                  have d3 := hcell_below HW2.out.bel (HK.out t (by omega))
                  obtain ⟨d4, d5⟩ := HW2.out.child (t := t) (by omega)
                  have hkt := HT.out t r rfl
                  by_cases h6 : kd t = 6
                  · have H6 := (show Hid _ from h6)
                    rw [h6] at d3
                    clear h6
                    go_wp2_with fail
                    · go_ret2; exact ShapePost.no HW2.out.bel
                    · go_ret2; exact ShapePost.no HW2.out.bel
                    · rename_i hq1 hq2 hq3
                      have hk4 : kd k = 4 := by simpa using hq3
                      have HR := HP2.out.child hOk.out hkt (by omega) (fun _ _ => hk4)
                      go_meet
                      case rel => exact ⟨_, HR.1, HR.2, HW2.out.bump (by omega) rfl⟩
                    · rename_i hq1 hq2
                      have HR := HP2.out.child hOk.out hkt (by omega) (fun _ e => absurd e (by omega))
                      go_meet
                      case rel => exact ⟨_, HR.1, HR.2, HW2.out.bump (by omega) rfl⟩
                  · have e6 : (kd t == 6) = false := by simpa using h6
                    go_wp2_with fail
                    · go_ret2; exact ShapePost.no HW2.out.bel
                    · have HR := HP2.out.child hOk.out hkt (by omega) (fun e => absurd e h6)
                      go_meet
                      case rel => exact ⟨_, HR.1, HR.2, HW2.out.bump (by omega) rfl⟩
              case rest =>
                have hlen := HP2.out.len
                clear HP2 HW2
                obtain ⟨ch2, p1, p2, hW3⟩ := hcut
                have P1 := (show Hid _ from p1); clear p1
                have P2 := (show Hid _ from p2); clear p2
                have HW3 := (show Hid _ from hW3); clear hW3
                cases hb
                · have hno : ¬ (kd k = 5 ∨ kd k = 6) := of_decide_eq_false HH.out
                  go_wp2_with fail
                  go_roundw
                  case rel => exact ⟨k + 1, st2, ch2, by omega, by go_num, rfl, P1.out hno, HW3.out⟩
                  case measure => simp [intOf]; omega
                · have hyes : kd k = 5 ∨ kd k = 6 := of_decide_eq_true HH.out
                  obtain ⟨cs, g1, g2, g3, hown⟩ := HW3.out.owns (by omega) hn
                  have HSC2 := (show Hid _ from g3); clear g3
                  have HG2 := (show Hid _ from g2); clear g2
                  go_wp2_with (at_builtin; refine wpList_append_fits _ rfl _ _ 26 rfl w.heap.size 3 i0 1 Try.underlying26 hi hz1 S st2.length n _ rfl (by exact hown.alloc _) ⟨wc.heap.size, 0, none⟩ 1 1 [.int .i64 (k : Nat)] rfl rfl (cells_new wc [.int .i64 (k : Nat)] 3) (by simp [Value.oneCell']) (by omega) ?_; intro w5 hown5 hgrow5)
                  have HW5 := HW3.out.push HG2.out HSC2.out hown5 hgrow5 (by omega)
                  go_roundw
                  case rel => exact ⟨k + 1, k :: st2, ch2, by omega, by go_num, rfl, P2.out hyes, HW5⟩
                  case measure => simp [intOf]; omega
      · obtain rfl : k = n := by omega
        go_wp2_with fail
        go_loopw [4, 5, 8, 15] (fun _ _ s _ wr2 => ∃ st2 : List Nat, s = .slice (some ⟨S, 0, none⟩) st2.length k ∧ wr2 = wr ∧ PInv k kd nx k st2 ch ∧ ShW w wr S k st2 ch) (fun _ _ s _ _ => lenOf s)
        case atStart => exact ⟨st, rfl, rfl, HP.out, HW.out⟩
        case round =>
          clear HP HW
          obtain ⟨st2, rfl, rfl, hP2, hW2⟩ := hrel
          have HP2 := (show Hid _ from hP2); clear hP2
          have HW2 := (show Hid _ from hW2); clear hW2
          cases st2 with
          | nil =>
            simp only [List.length_nil]
            go_wp2_with fail
            go_ret2
            obtain ⟨cc, h1, h2, h3⟩ := HW2.out.chd
            exact ⟨HW2.out.bel, Or.inr ⟨_, ch, rfl, by omega, hn, HP2.out.done, rfl, fun _ => ⟨_, 0, rfl, fun i hi => by rw [Nat.zero_add]; exact cell_of h1 (h3 i hi)⟩⟩⟩
          | cons t r =>
            have htk : t < k := HP2.out.lt t (by simp)
            have hlen := HP2.out.len
            simp only [List.length_cons] at hlen ⊢
            have hchl := HP2.out.le t
            have d1 := HW2.out.top
            have d3 := hcell_below HW2.out.bel (HK.out t (by omega))
            obtain ⟨d4, d5⟩ := HW2.out.child (t := t) (by omega)
            have hpop := (show Hid _ from HP2.out.last)
            by_cases h6 : kd t = 6
            · rw [h6] at d3
              go_wp2_with fail
              · go_ret2; exact ShapePost.no HW2.out.bel
              rename_i hpar
              have hev : ch t % 2 = 0 := by simp at hpar; omega
              go_roundw
              case rel => exact ⟨r, rfl, trivial, HP2.out.pop hpop.out (fun _ => hev), HW2.out.pop⟩
              case measure => simp [lenOf]
            · have e6 : (kd t == 6) = false := by simpa using h6
              go_wp2_with fail
              go_roundw
              case rel => exact ⟨r, rfl, trivial, HP2.out.pop hpop.out (fun e => absurd e h6), HW2.out.pop⟩
              case measure => simp [lenOf]

end Go.Proofs.Qxb6603622a
