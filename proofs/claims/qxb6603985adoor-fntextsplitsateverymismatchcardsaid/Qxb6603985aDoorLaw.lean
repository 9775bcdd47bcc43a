import Derived.Test.Qxb6603985aDoorRules
import Derived.Test.Qxb6603985aDoorSplit
namespace Go.Proofs.Qxb6603985aDoor
open Go.RowKit
set_option linter.unusedVariables false

/-- 'It answers true.' -/
def TruePost (w : World) (e : Ending) (w' : World) : Prop := e = .returned (.bool true) ∧ Below w.heap.size w w'

theorem Below.next {w w1 w2 : World} (h : Below w.heap.size w w1) (k : Below w1.heap.size w1 w2) : Below w.heap.size w w2 := h.trans (k.mono h.size)

def Sides (ms : List M) : Prop := ∀ i, i < ms.length → -9223372036854775808 ≤ (ms.getD i mZero).side ∧ (ms.getD i mZero).side ≤ 9223372036854775807
theorem msOk_of {ms : List M} (h : Sides ms) (hl : ms.length ≤ 65536) (hs : ∀ i, i < ms.length → (ms.getD i mZero).path.size ≤ 1048576 ∧ (ms.getD i mZero).reason.size ≤ 1048576) : MsOk ms :=
  ⟨by omega, fun i hi => ⟨(h i hi).1, (h i hi).2, (hs i hi).1, (hs i hi).2⟩⟩
theorem getD_left (a b : List M) (i : Nat) (h : i < a.length) : (a ++ b).getD i mZero = a.getD i mZero := by simp [List.getD, List.getElem?_append_left h]
theorem getD_right (a b : List M) (j : Nat) : (a ++ b).getD (a.length + j) mZero = b.getD j mZero := by
  rw [List.getD_eq_getElem?_getD, List.getD_eq_getElem?_getD, List.getElem?_append_right (by omega), Nat.add_sub_cancel_left]
theorem msOk_app {a b : List M} (ha : MsOk a) (hb : MsOk b) (hl : a.length + b.length ≤ 131072) : MsOk (a ++ b) := by
  refine ⟨by rw [List.length_append]; exact hl, fun i hi => ?_⟩
  rw [List.length_append] at hi
  by_cases h : i < a.length
  · rw [getD_left a b i h]; exact ha.2 i h
  · obtain ⟨j, rfl⟩ : ∃ j, i = a.length + j := ⟨i - a.length, by omega⟩
    rw [getD_right]; exact hb.2 j (by omega)

set_option maxHeartbeats 8000000 in
set_option maxRecDepth 100000 in
theorem law_any (w : World) (fs ts : ByteArray) (a b : Option Addr) (ca cb : Nat) (A B : List M) (ha : MsAt w a A) (hb : MsAt w b B) (hsa : Sides A) (hsb : Sides B)
    (htab : Lib.TabIs Tryd.prog w "internal/strconv.uint64pow10" .u64 Lib.pow10Tab) :
    Calls Tryd.prog 4 #[.string fs, .string ts, .slice a A.length ca, .slice b B.length cb] w (TruePost w) := by
  obtain ⟨i0, hi, hz0, hz1, hz2⟩ := info_parts infoM
  have HT := (show Hid _ from htab); clear htab
  have HA := (show Hid (MsAt w a A) from ha)
  have HB := (show Hid (MsAt w b B) from hb)
  have HSA := (show Hid (Sides A) from hsa)
  have HSB := (show Hid (Sides B) from hsb)
  have h6 := zzBytes_any w fs ts a b ca cb A B ha hb
  clear ha hb hsa hsb
  go_enter Tryd.func4, Tryd.ntmps4
  go_wp2_with (go_at_call 6; refine h6.mono ?_; clear h6; rintro e w1 ⟨bb, rfl, -, hb1⟩)
  all_goals try (go_ret; exact ⟨rfl, hb1⟩)
  have hlA : A.length ≤ 65536 := by omega
  have hlB : B.length ≤ 65536 := by omega
  have hfs : fs.size ≤ 1048576 := by omega
  have hts : ts.size ≤ 1048576 := by omega
  refine (msBytes_any w1 a ca A (HA.out.below hb1) hlA).mono ?_
  rintro e w2 ⟨v1, rfl, hv0, hv1, hq1, hb2⟩
  have HQ1 := (show Hid _ from hq1); clear hq1
  replace hb2 := Below.next hb1 hb2
  clear hb1
  go_wp2_with fail
  refine (msBytes_any w2 b cb B (HB.out.below hb2) hlB).mono ?_
  rintro e w3 ⟨v2, rfl, hu0, hu1, hq2, hb3⟩
  have HQ2 := (show Hid _ from hq2); clear hq2
  replace hb3 := Below.next hb2 hb3
  clear hb2
  go_wp2_with fail
  · go_ret
    exact ⟨rfl, hb3⟩
  have OA := (show Hid _ from msOk_of HSA.out hlA (HQ1.out (by omega)))
  have OB := (show Hid _ from msOk_of HSB.out hlB (HQ2.out (by omega)))
  refine (toRules_any w3 a ca A (HA.out.below hb3) hlA).mono ?_
  rintro e w4 ⟨a', ca', rfl, hMa, hb4⟩
  have HMa := (show Hid _ from hMa); clear hMa
  replace hb4 := Below.next hb3 hb4
  clear hb3
  go_wp2_with fail
  refine (toRules_any w4 b cb B (HB.out.below hb4) hlB).mono ?_
  rintro e w5 ⟨b', cb', rfl, hMb, hb5⟩
  have HMa5 := (show Hid (MsAt w5 a' A) from MsAt.below HMa.out hb5); clear HMa
  have HMb5 := (show Hid (MsAt w5 b' B) from hMb); clear hMb
  replace hb5 := Below.next hb4 hb5
  clear hb4
  go_wp2_with (at_make; refine wpList_make_full _ rfl _ _ 28 rfl w5.heap.size 31 i0 _ 3 Tryd.underlying28 hi hz0 hz1 .i64 .i64 _ _ (A.length + B.length) rfl rfl (by omega) (by omega) (by rw [hz2]; omega) (by unfold maxLen; omega) (Nat.le_refl _) ?_; intro w6 hown hgr)
  have hst := msPart_made (ms := A ++ B) (by rw [List.length_append]; exact hown)
  clear hown
  go_loopw [12] (fun i wr => ∃ k : Nat, k ≤ A.length ∧ i = .int .i64 k ∧ Below w5.heap.size w5 wr ∧ MsPart wr w5.heap.size (A ++ B) k) (fun i _ => A.length - (intOf i).toNat)
  case atStart => exact ⟨0, Nat.zero_le _, rfl, (Below.refl _ _).grown hgr (Nat.le_refl _) (fun k h => by cases h), hst⟩
  case round =>
    clear hst hgr
    obtain ⟨k, hk, rfl, hb6, hrow⟩ := hrel
    have hal : (A ++ B).length = A.length + B.length := List.length_append
    by_cases hlt : k < A.length
    · obtain ⟨b0, o0, rfl, hcc⟩ := HMa5.out (by omega)
      obtain ⟨d0, d1, d2⟩ := hcc k hlt
      obtain ⟨m, hm⟩ : ∃ m, A.getD k mZero = m := ⟨_, rfl⟩
      rw [hm] at d0 d1 d2
      replace d0 := cell_below hb6 d0
      replace d1 := cell_below hb6 d1
      replace d2 := cell_below hb6 d2
      have HR := (show Hid _ from hrow.store (by omega) m (by rw [getD_left A B k hlt]; exact hm))
      clear hcc hm
      obtain ⟨x0, g0⟩ := hrow.cell (k * 3) (by omega)
      obtain ⟨x1, g1⟩ := hrow.cell (k * 3 + 1) (by omega)
      obtain ⟨x2, g2⟩ := hrow.cell (k * 3 + 2) (by omega)
      have f0 := hrow.free (k * 3)
      have f1 := hrow.free (k * 3 + 1)
      have f2 := hrow.free (k * 3 + 2)
      have hb7 := ((hb6.setCell (p := ⟨w5.heap.size, k * 3, none⟩) (Nat.le_refl _) (.int .i64 m.side)).setCell (p := ⟨w5.heap.size, k * 3 + 1, none⟩) (Nat.le_refl _) (.string m.path)).setCell (p := ⟨w5.heap.size, k * 3 + 2, none⟩) (Nat.le_refl _) (.string m.reason)
      clear hal
      go_wp2_with fail
      go_roundw
      case rel => exact ⟨k + 1, by omega, by go_num, hb7, HR.out⟩
      case measure => simp [intOf]; omega
    · have hke : k = A.length := by omega
      subst hke
      go_wp2_with fail
      go_loopw [13] (fun i wr2 => ∃ k : Nat, k ≤ B.length ∧ i = .int .i64 k ∧ Below w5.heap.size w5 wr2 ∧ MsPart wr2 w5.heap.size (A ++ B) (A.length + k)) (fun i _ => B.length - (intOf i).toNat)
      case atStart => exact ⟨0, Nat.zero_le _, rfl, hb6, hrow⟩
      case round =>
        clear hrow hb6
        obtain ⟨k, hk, rfl, hb6, hrow⟩ := hrel
        by_cases hlt : k < B.length
        · obtain ⟨b0, o0, rfl, hcc⟩ := HMb5.out (by omega)
          obtain ⟨d0, d1, d2⟩ := hcc k hlt
          obtain ⟨m, hm⟩ : ∃ m, B.getD k mZero = m := ⟨_, rfl⟩
          rw [hm] at d0 d1 d2
          replace d0 := cell_below hb6 d0
          replace d1 := cell_below hb6 d1
          replace d2 := cell_below hb6 d2
          have HR := (show Hid _ from hrow.store (by omega) m (by rw [getD_right]; exact hm))
          clear hcc hm
          obtain ⟨x0, g0⟩ := hrow.cell ((A.length + k) * 3) (by omega)
          obtain ⟨x1, g1⟩ := hrow.cell ((A.length + k) * 3 + 1) (by omega)
          obtain ⟨x2, g2⟩ := hrow.cell ((A.length + k) * 3 + 2) (by omega)
          have f0 := hrow.free ((A.length + k) * 3)
          have f1 := hrow.free ((A.length + k) * 3 + 1)
          have f2 := hrow.free ((A.length + k) * 3 + 2)
          have hb7 := ((hb6.setCell (p := ⟨w5.heap.size, (A.length + k) * 3, none⟩) (Nat.le_refl _) (.int .i64 m.side)).setCell (p := ⟨w5.heap.size, (A.length + k) * 3 + 1, none⟩) (Nat.le_refl _) (.string m.path)).setCell (p := ⟨w5.heap.size, (A.length + k) * 3 + 2, none⟩) (Nat.le_refl _) (.string m.reason)
          clear hal
          go_wp2_with fail
          go_roundw
          case rel => exact ⟨k + 1, by omega, by go_num, hb7, HR.out⟩
          case measure => simp [intOf]; omega
        · have hke : k = B.length := by omega
          subst hke
          have HF := (show Hid (MsAt wr (some ⟨w5.heap.size, 0, none⟩) (A ++ B)) from hrow.full (by omega))
          have OAB := (show Hid _ from msOk_app OA.out OB.out (by omega))
          have HMa6 := (show Hid (MsAt wr a' A) from MsAt.below HMa5.out hb6)
          have HMb6 := (show Hid (MsAt wr b' B) from MsAt.below HMb5.out hb6)
          clear hrow HMa5 HMb5
          replace hb6 := Below.next hb5 hb6
          clear hb5
          have q0 := text_any fs ts none 0 [] wr (fun h => by simp at h) ⟨by simp, fun i hi => by simp at hi⟩ hfs hts (Joins.tab_stays pow10At HT.out hb6 (Nat.le_refl _))
          go_wp2_with fail
          refine q0.mono ?_
          rintro e w7 ⟨rfl, hb7⟩
          clear q0
          have q1 := text_any fs ts a' ca' A w7 (MsAt.below HMa6.out hb7) OA.out hfs hts (Joins.tab_stays pow10At HT.out (Below.next hb6 hb7) (Nat.le_refl _))
          go_wp2_with fail
          refine q1.mono ?_
          rintro e w8 ⟨rfl, hb8⟩
          replace hb8 := Below.next hb7 hb8
          clear q1 hb7
          have q2 := text_any fs ts b' cb' B w8 (MsAt.below HMb6.out hb8) OB.out hfs hts (Joins.tab_stays pow10At HT.out (Below.next hb6 hb8) (Nat.le_refl _))
          go_wp2_with fail
          refine q2.mono ?_
          rintro e w9 ⟨rfl, hb9⟩
          replace hb9 := Below.next hb8 hb9
          clear q2 hb8
          have q3 := text_any fs ts (some ⟨w5.heap.size, 0, none⟩) (A.length + B.length) (A ++ B) w9 (MsAt.below HF.out hb9) OAB.out hfs hts (Joins.tab_stays pow10At HT.out (Below.next hb6 hb9) (Nat.le_refl _))
          rw [hal] at q3
          go_wp2_with fail
          refine q3.mono ?_
          rintro e w10 ⟨rfl, hb10⟩
          replace hb10 := Below.next hb6 (Below.next hb9 hb10)
          clear q3 hb9 hb6
          have z1 : (textS fs ts A).size ≤ 2097200 + A.length * 2097202 := by
            have := bodyN_le A OA.out A.length (Nat.le_refl _)
            have := headS_le fs ts hfs hts
            rw [textS_size]; omega
          have z2 : (textS fs ts B).size ≤ 2097200 + B.length * 2097202 := by
            have := bodyN_le B OB.out B.length (Nat.le_refl _)
            have := headS_le fs ts hfs hts
            rw [textS_size]; omega
          have z3 : (textS fs ts []).size ≤ (textS fs ts B).size := by
            rw [textS_nil, textS_size]; omega
          have z4 := text_head fs ts B
          have E1 : Hid (A.length = 0 → textS fs ts (A ++ B) = textS fs ts B) := fun h => by rw [List.eq_nil_of_length_eq_zero h]; rfl
          have E2 : Hid (B.length = 0 → textS fs ts (A ++ B) = textS fs ts A) := fun h => by rw [List.eq_nil_of_length_eq_zero h, List.append_nil]
          have E3 : Hid (A.length ≠ 0 → B.length ≠ 0 → textS fs ts (A ++ B) = textS fs ts A ++ ⟨#[59, 32]⟩ ++ (textS fs ts B).extract (textS fs ts []).size (textS fs ts B).size) :=
            fun h1 h2 => text_split fs ts A B (fun e => h1 (by rw [e]; rfl)) (fun e => h2 (by rw [e]; rfl))
          generalize textS fs ts [] = TH at *
          generalize textS fs ts A = TA at *
          generalize textS fs ts B = TB at *
          generalize textS fs ts (A ++ B) = TAB at *
          by_cases hA0 : A.length = 0
          · have e1 := E1.out hA0
            subst e1
            clear z4 z3
            go_wp2_with fail
            go_ret
            exact ⟨by simp, hb10⟩
          · by_cases hB0 : B.length = 0
            · have e1 := E2.out hB0
              subst e1
              clear z4 z3
              go_wp2_with fail
              go_ret
              exact ⟨by simp, hb10⟩
            · have e1 := E3.out hA0 hB0
              have p2 : ((TB.extract 0 TH.size).toList == TH.toList) = true := by rw [z4]; simp
              have p3 : (TAB.toList == (TA ++ ⟨#[59, 32]⟩ ++ TB.extract TH.size TB.size).toList) = true := by rw [← e1]; simp
              clear z4 e1
              go_wp2_with fail
              go_ret
              exact ⟨rfl, hb10⟩

end Go.Proofs.Qxb6603985aDoor
