import Derived.Test.Qxb6602416aModel2
import Derived.Deep.DeepCutAuto
import Derived.Deep.CutBlock
namespace Go.Proofs.Qxb6602416a
open Go.RowKit
set_option linter.unusedVariables false

/-- The two slices of modelEdges hold the ends of the edges E. -/
def Ends (own : Nat → Tag) (w : World) (v8 v9 : Value) (E : List (Nat × Nat)) : Prop :=
  RowT own w (8, 0) v8 (E.map (fun p => (p.1 : Int))) ∧ RowT own w (8, 1) v9 (E.map (fun p => (p.2 : Int)))
def MEInv (w wr : World) (v8 v9 : Value) (E : List (Nat × Nat)) : Prop :=
  ∃ own, Fr (fun t => t.1 = 8) (fun _ => (0, 0)) own w wr ∧ Ends own wr v8 v9 E
theorem MEInv.quiet {w wr w2 : World} {v8 v9 : Value} {E : List (Nat × Nat)} (h : MEInv w wr v8 v9 E) (hf : ∀ own, Fr (fun _ => False) own own wr w2) : MEInv w w2 v8 v9 E := by
  obtain ⟨own, F, h8, h9⟩ := h
  exact ⟨own, F.trans ((hf own).mono (fun _ x => x.elim)), h8.fr (hf own) (fun x => x), h9.fr (hf own) (fun x => x)⟩
theorem MEInv.cell {w wr : World} {v8 v9 : Value} {E : List (Nat × Nat)} (h : MEInv w wr v8 v9 E) {p : Addr} {u : Value} (hc : w.cell? p = some u) : wr.cell? p = some u := by
  obtain ⟨own, F, _⟩ := h
  exact F.cell hc (by simp)

theorem str_eq (a b : ByteArray) : (a.toList == b.toList) = decide (a = b) := by
  rw [ByteArray.toList_eq, ByteArray.toList_eq, Bool.eq_iff_iff]
  simp only [beq_iff_eq, decide_eq_true_eq]
  exact ⟨fun h => ByteArray.ext (Array.ext' h), fun h => by rw [h]⟩

def prevOf (xs : List Int) : Int := xs.getLast?.getD (-1)
theorem once_same {xs : List Int} {u : Nat} (h : ((u : Int) != prevOf xs) = false) : Plain.once xs u = xs := by
  have h' : (u : Int) = prevOf xs := by simpa using h
  unfold Plain.once
  unfold prevOf at h'
  cases hx : xs.getLast? with
  | none => rw [hx] at h'; simp at h'
  | some y => rw [hx] at h'; simp at h'; rw [if_pos (by rw [h'])]
theorem once_new {xs : List Int} {u : Nat} (h : ((u : Int) != prevOf xs) = true) : Plain.once xs u = xs ++ [(u : Int)] := by
  have h' : (u : Int) ≠ prevOf xs := by simpa using h
  unfold Plain.once
  rw [if_neg (fun e => h' (by unfold prevOf; rw [e]; rfl))]
theorem prev_push (xs : List Int) (u : Int) : prevOf (xs ++ [u]) = u := by simp [prevOf]
theorem ends1 (E : List (Nat × Nat)) (A : Int) (v : Nat) (h : 0 ≤ A ∧ A ≠ v) : (Plain.addE E A v).map (fun p => (p.1 : Int)) = E.map (fun p => (p.1 : Int)) ++ [A] := by
  unfold Plain.addE
  rw [if_pos h]
  simp; omega
theorem ends2 (E : List (Nat × Nat)) (A : Int) (v : Nat) (h : 0 ≤ A ∧ A ≠ v) : (Plain.addE E A v).map (fun p => (p.2 : Int)) = E.map (fun p => (p.2 : Int)) ++ [(v : Int)] := by
  unfold Plain.addE
  rw [if_pos h]
  simp
theorem addE_not (E : List (Nat × Nat)) (A : Int) (v : Nat) (h : ¬ (0 ≤ A ∧ A ≠ v)) : Plain.addE E A v = E := by unfold Plain.addE; rw [if_neg h]
theorem runR_no {ids : List Int} {ops : List OpR} {x : ByteArray} {s d i : Nat} (hi : s + d = i) (h : isOp ids ops 2 x i = false) : runR ids ops x s (d + 1) = runR ids ops x s d := by
  simp only [runR]; rw [hi, h]; simp
theorem runR_yes {ids : List Int} {ops : List OpR} {x : ByteArray} {s d i u : Nat} (hi : s + d = i) (h : isOp ids ops 2 x i = true) (hu : nodeI ids ops i = (u : Int)) : runR ids ops x s (d + 1) = Plain.once (runR ids ops x s d) u := by
  simp only [runR]; rw [hi, h, hu]; simp
theorem runR_le (ids : List Int) (ops : List OpR) (x : ByteArray) (s : Nat) : ∀ d, (runR ids ops x s d).length ≤ d
  | 0 => by simp [runR]
  | d + 1 => by
    have := runR_le ids ops x s d
    simp only [runR]
    split
    · have := Plain.once_le (runR ids ops x s d) (nodeI ids ops (s + d)); omega
    · omega
theorem MEInv.push {w wr w3 w4 : World} {own own2 own3 : Nat → Tag} {v8' v9' : Value} {E : List (Nat × Nat)} {A : Int} {v : Nat} (hA : 0 ≤ A ∧ A ≠ v)
    (F : Fr (fun t => t.1 = 8) (fun _ => (0, 0)) own w wr) (F2 : Fr (fun u => u = (8, 0)) own own2 wr w3) (F3 : Fr (fun u => u = (8, 1)) own2 own3 w3 w4)
    (h8 : RowT own2 w3 (8, 0) v8' (E.map (fun p => (p.1 : Int)) ++ [A])) (h9 : RowT own3 w4 (8, 1) v9' (E.map (fun p => (p.2 : Int)) ++ [(v : Int)])) : MEInv w w4 v8' v9' (Plain.addE E A v) := by
  refine ⟨own3, F.trans ((F2.mono (fun _ h => by rw [h])).trans (F3.mono (fun _ h => by rw [h]))), ?_, ?_⟩
  · rw [ends1 _ _ _ hA]; exact h8.fr F3 (by decide)
  · rw [ends2 _ _ _ hA]; exact h9

set_option maxRecDepth 100000 in
set_option maxHeartbeats 4000000 in
theorem modelEdges_any (w : World) (a1 a4 aN : Option Addr) (c1 c4 cN : Nat) (ids : List Int) (ops : List OpR)
    (h1 : CellsAt Value.string ByteArray.empty w a1 (ops.map (·.item))) (h4 : CellsAt (Value.int .u8) 0 w a4 (ops.map (·.kind))) (hN : CellsAt (Value.int .i64) 0 w aN ((ops.map (·.txn)).map (lastI ids))) (hlo : ops.length ≤ 4096) :
    Calls Try.prog 18 #[.slice a1 ops.length c1, .slice a4 ops.length c4, .slice aN ops.length cN] w fun e w' => ∃ v8 v9, e = .returned (.tuple #[v8, v9]) ∧ MEInv w w' v8 v9 (gsAt ids ops ops.length).E := by
  obtain ⟨i0, hi, hz0, hz1, hz2⟩ := info_parts Try.info3
  go_enter Try.func18, Try.ntmps18
  go_wp2
  go_loopw [8, 9, 10, 11, 12, 13, 14, 15, 16, 17] (fun v8 v9 t _ _ _ _ _ _ _ wr => ∃ j : Nat, j ≤ ops.length ∧ t = .int .i64 j ∧ MEInv w wr v8 v9 (gsAt ids ops j).E) (fun _ _ t _ _ _ _ _ _ _ _ => ops.length - (intOf t).toNat)
  case atStart => exact ⟨0, Nat.zero_le _, rfl, fun _ => (0, 0), Fr.refl _ _ _, RowT.nil _ _ _, RowT.nil _ _ _⟩
  case round =>
    obtain ⟨j, hj, rfl, hME⟩ := hrel
    by_cases hlt : j < ops.length
    · obtain ⟨b1, o1, rfl, r1⟩ := h1 (by simp; omega)
      obtain ⟨b4, o4, rfl, r4⟩ := h4 (by simp; omega)
      obtain ⟨bN, oN, rfl, rN⟩ := hN (by simp; omega)
      have q1 : Hid (∀ i, i < ops.length → w.cell? ⟨b1, o1 + i, none⟩ = some (.string (ops.getD i opZero).item)) := fun i hi => by
        have := r1 i (by simpa using hi)
        rwa [show (ops.map (·.item)).getD i ByteArray.empty = (ops.getD i opZero).item from getD_map (·.item) ops i opZero] at this
      have q4 : Hid (∀ i, i < ops.length → w.cell? ⟨b4, o4 + i, none⟩ = some (.int .u8 (ops.getD i opZero).kind)) := fun i hi => by
        have := r4 i (by simpa using hi)
        rwa [show (ops.map (·.kind)).getD i 0 = (ops.getD i opZero).kind from getD_map (·.kind) ops i opZero] at this
      have qN : Hid (∀ i, i < ops.length → w.cell? ⟨bN, oN + i, none⟩ = some (.int .i64 (nodeI ids ops i))) := fun i hi => by
        have := rN i (by simpa using hi)
        have e : ((ops.map (·.txn)).map (lastI ids)).getD i 0 = nodeI ids ops i := by
          unfold nodeI
          simp [List.getD, hi]
        rwa [e] at this
      clear r1 r4 rN h1 h4 hN
      have hgs := gsAt_succ ids ops j hlt
      have hOk := gsAt_ok ids ops hlo j hj
      obtain ⟨s, htell⟩ := acc_tells ids ops j hj (ops.getD j opZero).item
      have z1 := hME.cell (q1.out j hlt)
      have z4 := hME.cell (q4.out j hlt)
      have zN := hME.cell (qN.out j hlt)
      have hnd : nodeI ids ops j = lastI ids (ops.getD j opZero).txn := rfl
      obtain ⟨⟨tx, it, va, fr, kd, ve⟩, ho⟩ : ∃ o, ops.getD j opZero = o := ⟨_, rfl⟩
      rw [ho] at z1 z4 hgs htell hnd
      simp only at z1 z4 hgs htell hnd
      cases hl : Plain.lastIdx ids tx with
      | none =>
        have e9 : nodeI ids ops j = -1 := by rw [hnd]; unfold lastI; rw [hl]
        rw [e9] at zN
        have hE : Hid ((gsAt ids ops (j + 1)).E = (gsAt ids ops j).E) := by rw [hgs]; simp [Plain.gstep, hl, Hid]
        clear hgs htell hnd e9 hl ho
        go_wp2_with fail
        go_roundw
        case rel => exact ⟨j + 1, by omega, by go_num, by rw [hE.out]; exact hME⟩
        case measure => simp [intOf]; omega
      | some v =>
        have e9 : nodeI ids ops j = (v : Int) := by rw [hnd]; unfold lastI; rw [hl]
        rw [e9] at zN
        have hvlt := (Plain.lastIdx_lt ids tx v hl).1
        have hia := isAccess_any wr kd
        by_cases hk : kd = 2 ∨ kd = 3
        · rw [decide_eq_true hk] at hia
          have HG := (show Hid _ from hgs); have HT := (show Hid _ from htell); have HL := (show Hid _ from hl); have HO := (show Hid _ from ho); have HK := (show Hid _ from hk)
          clear hgs htell hnd e9 hl ho hk
          have hTs : s ≤ j := HT.out.1
          go_upto_block 2 with (go_at_call 24; refine hia.mono ?_; rintro e w' ⟨rfl, rfl⟩)
          go_cut [12, 13] (fun k _ wc => ∃ kv : Int, k = .int .i64 kv ∧ kv = (s : Int) - 1 ∧ ∀ own, Fr (fun _ => False) own own w' wc)
          case first =>
            go_wp2_with fail
            go_loopw [12, 13] (fun k t wc => ∃ (m : Nat) (tv : Int), s ≤ m ∧ m ≤ j ∧ tv = (m : Int) - 1 ∧ k = .int .i64 (-1) ∧ t = .int .i64 tv ∧ ∀ own, Fr (fun _ => False) own own w' wc) (fun _ t _ => (intOf t + 1).toNat)
            case atStart => exact ⟨j, _, hTs, Nat.le_refl _, rfl, rfl, rfl, fun own => Fr.refl _ _ _⟩
            case round =>
              obtain ⟨m, tv, hsm, hmj, htv, rfl, rfl, hq⟩ := hrel
              rcases Nat.eq_zero_or_pos m with h0 | h0
              · obtain rfl : tv = -1 := by omega
                clear htv
                go_wp2_with fail
                go_meet
                exact ⟨_, rfl, by omega, hq⟩
              · obtain ⟨i, rfl⟩ : ∃ i, m = i + 1 := ⟨m - 1, by omega⟩
                obtain rfl : tv = (i : Int) := by omega
                have hMq := hME.quiet hq
                have y1 := hMq.cell (q1.out i (by omega))
                have y4 := hMq.cell (q4.out i (by omega))
                have yN := hMq.cell (qN.out i (by omega))
                have x1 : wr.cell? ⟨b1, o1 + j, none⟩ = some (.string it) := by have := hMq.cell (q1.out j hlt); rw [HO.out] at this; exact this
                have hio : isOp ids ops 3 it i = (decide (0 ≤ nodeI ids ops i) && (decide ((ops.getD i opZero).kind = 3) && decide ((ops.getD i opZero).item = it))) := rfl
                obtain ⟨kv, hkv⟩ : ∃ x, (ops.getD i opZero).kind = x := ⟨_, rfl⟩
                obtain ⟨iv, hiv⟩ : ∃ x, (ops.getD i opZero).item = x := ⟨_, rfl⟩
                rw [hkv, hiv] at hio
                rw [hkv] at y4; rw [hiv] at y1
                clear hkv hiv z1 z4 zN htv
                cases hnd : nd ids ops i with
                | none =>
                  have e0 := nodeI_none hnd
                  rw [e0] at yN hio
                  have hno : isOp ids ops 3 it i = false := by rw [hio]; rfl
                  have HI := (show Hid _ from hno)
                  have hsi : s ≠ i + 1 := fun h => by
                    rcases HT.out.2.2.2 with ⟨h', _⟩ | ⟨_, h', _⟩
                    · omega
                    · rw [h, Nat.add_sub_cancel] at h'; rw [HI.out] at h'; cases h'
                  clear hio hno e0 hnd
                  go_wp2_with fail
                  go_quiet (fail)
                  go_wp2_with fail
                  go_roundw
                  case rel => exact ⟨i, _, by omega, by omega, rfl, rfl, rfl, fun own => (hq own).drewN _⟩
                  case measure => simp [intOf]
                | some u =>
                  have e0 := nodeI_some hnd
                  rw [e0] at yN hio
                  have hu : decide ((u : Int) ≥ 0) = true := by simp
                  by_cases g2 : (kv == 3) = true
                  · by_cases g3 : (iv.toList == it.toList) = true
                    · have hyes : isOp ids ops 3 it i = true := by rw [hio, ← str_eq, g3]; simp at g2; simp [g2]
                      have hsi : s = i + 1 := by
                        have := HT.out.2.2.1 i
                        by_cases h : s ≤ i
                        · rw [this h (by omega)] at hyes; cases hyes
                        · omega
                      subst hsi
                      clear hio hyes e0 hnd
                      go_wp2_with fail
                      go_quiet (fail)
                      go_wp2_with fail
                      go_meet
                      exact ⟨_, rfl, by omega, fun own => (hq own).drewN _⟩
                    · have g3' : (iv.toList == it.toList) = false := eq_false_of_ne_true g3
                      have hno : isOp ids ops 3 it i = false := by rw [hio, ← str_eq, g3']; simp
                      have HI := (show Hid _ from hno)
                      have hsi : s ≠ i + 1 := fun h => by
                        rcases HT.out.2.2.2 with ⟨h', _⟩ | ⟨_, h', _⟩
                        · omega
                        · rw [h, Nat.add_sub_cancel] at h'; rw [HI.out] at h'; cases h'
                      clear hio hno e0 hnd g3
                      go_wp2_with fail
                      go_quiet (fail)
                      go_wp2_with fail
                      go_roundw
                      case rel => exact ⟨i, _, by omega, by omega, rfl, rfl, rfl, fun own => (hq own).drewN _⟩
                      case measure => simp [intOf]
                  · have g2' : (kv == 3) = false := eq_false_of_ne_true g2
                    have hno : isOp ids ops 3 it i = false := by rw [hio]; simp at g2; simp [g2]
                    have HI := (show Hid _ from hno)
                    have hsi : s ≠ i + 1 := fun h => by
                      rcases HT.out.2.2.2 with ⟨h', _⟩ | ⟨_, h', _⟩
                      · omega
                      · rw [h, Nat.add_sub_cancel] at h'; rw [HI.out] at h'; cases h'
                    clear hio hno e0 hnd g2
                    go_wp2_with fail
                    go_quiet (fail)
                    go_wp2_with fail
                    go_roundw
                    case rel => exact ⟨i, _, by omega, by omega, rfl, rfl, rfl, fun own => (hq own).drewN _⟩
                    case measure => simp [intOf]
          case rest =>
            obtain ⟨kv, rfl, hkv, hq⟩ := hcut
            replace hME := hME.quiet hq
            obtain ⟨A, hA⟩ : ∃ A, ((gsAt ids ops j).acc it).1 = A := ⟨_, rfl⟩
            obtain ⟨R, hR⟩ : ∃ R, ((gsAt ids ops j).acc it).2 = R := ⟨_, rfl⟩
            have hRr : Hid (R = runR ids ops it s (j - s)) := by rw [← hR]; exact HT.out.2.1
            have hAn : A = -1 ∨ 0 ≤ A := by
              rw [← hA]
              rcases HT.out.2.2.2 with ⟨_, h⟩ | ⟨_, h', h⟩
              · exact .inl h
              · refine .inr ?_
                rw [h]
                have := h'
                unfold isOp at this
                simp at this
                exact this.1
            have hcase : Hid ((kv < 0 ∧ A = -1) ∨ (0 ≤ kv ∧ A = nodeI ids ops kv.toNat)) := by
              rw [← hA]
              rcases HT.out.2.2.2 with ⟨h, h2⟩ | ⟨h, _, h2⟩
              · exact .inl ⟨by omega, h2⟩
              · exact .inr ⟨by omega, by rw [show kv.toNat = s - 1 by omega]; exact h2⟩
            have hkl : kv < (ops.length : Int) := by omega
            have hkl0 : -1 ≤ kv := by omega
            have HKV := (show Hid _ from hkv)
            clear z1 z4 zN hkv
            go_upto_if 69 with fail
            go_cut [14] (fun s14 wx => s14 = .int .i64 A ∧ ∀ own, Fr (fun _ => False) own own wc wx)
            case first =>
              rcases hcase.out with ⟨hc1, hc2⟩ | ⟨hc1, hc2⟩
              · subst hc2
                go_wp2_with fail
                go_meet
                exact ⟨rfl, fun own => Fr.refl _ _ _⟩
              · have zk := hME.cell (qN.out kv.toNat (by omega))
                rw [← hc2] at zk
                have HC := (show Hid _ from hc2); clear hc2
                go_wp2_with fail
                go_meet
                exact ⟨rfl, fun own => Fr.refl _ _ _⟩
            case rest =>
              obtain ⟨rfl, hq2⟩ := hcut
              replace hME := hME.quiet hq2
              go_upto_region 16 with fail
              go_cut [80] (fun c wx => c = .bool (decide (0 ≤ A ∧ A ≠ (v : Int))) ∧ wc = wx)
              case first =>
                by_cases hA0 : 0 ≤ A
                · go_wp2_with fail
                  go_meet
                  exact ⟨by congr 1; rw [Bool.eq_iff_iff]; simp [hA0], rfl⟩
                · go_wp2_with fail
                  go_meet
                  exact ⟨by rw [decide_eq_false (by omega)], rfl⟩
              case rest =>
                obtain ⟨rfl, rfl⟩ := hcut
                go_upto_if 80 with fail
                go_cut [8, 9] (fun s8 s9 wx => MEInv w wx s8 s9 (Plain.addE (gsAt ids ops j).E A v))
                case first =>
                  have hlen : (gsAt ids ops j).E.length ≤ 20000000 := by have := hOk.len; omega
                  by_cases hd : 0 ≤ A ∧ A ≠ (v : Int)
                  · rw [decide_eq_true hd]
                    have HD := (show Hid _ from hd); clear hd
                    obtain ⟨own, F, h8, h9⟩ := hME
                    obtain ⟨E, hE⟩ : ∃ E, (gsAt ids ops j).E = E := ⟨_, rfl⟩
                    rw [hE] at h8 h9 hlen
                    have hlX : (E.map (fun p => (p.1 : Int))).length ≤ 20000000 := by rw [List.length_map]; exact hlen
                    have hlY : (E.map (fun p => (p.2 : Int))).length ≤ 20000000 := by rw [List.length_map]; exact hlen
                    obtain ⟨X, hX⟩ : ∃ X, E.map (fun p => (p.1 : Int)) = X := ⟨_, rfl⟩
                    obtain ⟨Y, hY⟩ : ∃ Y, E.map (fun p => (p.2 : Int)) = Y := ⟨_, rfl⟩
                    rw [hX] at h8 hlX; rw [hY] at h9 hlY
                    obtain ⟨a8, k8, rfl, _⟩ := h8.form
                    obtain ⟨a9, k9, rfl, _⟩ := h9.form
                    have HX := (show Hid _ from hX); have HY := (show Hid _ from hY); have HE := (show Hid _ from hE)
                    clear hX hY hlen hE
                    go_upto_region 18 with (at_builtin; refine wpList_append_lies _ rfl _ _ 22 rfl 0 3 i0 (.int .i64 0) 1 8 Try.underlying22 hi hz0 hz1 hz2 rfl (by decide) (.slice a8 X.length k8) X.length (X.map (Value.int .i64)) rfl (by exact h8.1.alloc _) ⟨wc.heap.size, 0, none⟩ 1 1 [.int .i64 A] rfl rfl (by exact cell_one_new _ _ _) (ints_oneCell .i64 [A]) (by decide) (by unfold maxLen; omega) (by omega) (Nat.zero_le _) (wc.heap.size + 1) (by simp) ?_; intro g cp w3 hown hgrow hat hlt3)
                    obtain ⟨own2, F2, R8⟩ := h8.push ((Fr.refl _ _ _).alloc0 _) (by exact hown) (by exact hgrow) (by simpa using hat)
                    have R9 := h9.fr F2 (by decide)
                    clear hown hgrow hat
                    go_wp2_with (at_builtin; refine wpList_append_lies _ rfl _ _ 22 rfl 0 3 i0 (.int .i64 0) 1 8 Try.underlying22 hi hz0 hz1 hz2 rfl (by decide) (.slice a9 Y.length k9) Y.length (Y.map (Value.int .i64)) rfl (by exact R9.1.alloc _) ⟨w3.heap.size, 0, none⟩ 1 1 [.int .i64 (v : Int)] rfl rfl (by exact cell_one_new _ _ _) (ints_oneCell .i64 [(v : Int)]) (by decide) (by unfold maxLen; omega) (by omega) (Nat.zero_le _) (w3.heap.size + 1) (by simp) ?_; intro g2 cp2 w4 hown hgrow hat hlt4)
                    obtain ⟨own3, F3, R9'⟩ := R9.push ((Fr.refl _ _ _).alloc0 _) (by exact hown) (by exact hgrow) (by simpa using hat)
                    go_meet
                    rw [HE.out]
                    exact MEInv.push HD.out F F2 F3 (by rw [HX.out]; exact R8) (by rw [HY.out]; exact R9')
                  · rw [decide_eq_false hd]
                    have HD := (show Hid _ from hd); clear hd
                    go_wp2_with fail
                    go_meet
                    rw [addE_not _ _ _ HD.out]
                    exact hME
                case rest =>
                  clear hME
                  have hME := hcut
                  clear hcut
                  have z4 : wc.cell? ⟨b4, o4 + j, none⟩ = some (.int .u8 kd) := by have := hME.cell (q4.out j hlt); rw [HO.out] at this; exact this
                  rcases HK.out with hk2 | hk3
                  · subst hk2
                    have hE : Hid ((gsAt ids ops (j + 1)).E = Plain.addE (gsAt ids ops j).E A v) := by
                      have h1 := HG.out
                      rw [gstep_read HL.out, hA] at h1
                      show (gsAt ids ops (j + 1)).E = _
                      rw [h1]; rfl
                    go_wp2_with fail
                    go_roundw
                    case rel => exact ⟨j + 1, by omega, by go_num, by rw [hE.out]; exact hME⟩
                    case measure => simp [intOf]; omega
                  · subst hk3
                    have hE : Hid ((gsAt ids ops (j + 1)).E = R.foldl (fun E r => Plain.addE E r v) (Plain.addE (gsAt ids ops j).E A v)) := by
                      have h1 := HG.out
                      rw [gstep_write HL.out, hA, hR] at h1
                      show (gsAt ids ops (j + 1)).E = _
                      rw [h1]; rfl
                    have hE0 : (Plain.addE (gsAt ids ops j).E A v).length ≤ 17000000 := by have := hOk.len; have := Plain.addE_le (gsAt ids ops j).E A v; omega
                    obtain ⟨E0, hE00⟩ : ∃ E0, Plain.addE (gsAt ids ops j).E A v = E0 := ⟨_, rfl⟩
                    rw [hE00] at hE hE0 hME
                    clear hE00 hA hR
                    go_wp2_with fail
                    go_loopw [8, 9, 15, 16, 17] (fun v8 v9 p t _ wr => ∃ d i : Nat, s + d = i ∧ i ≤ j ∧ t = .int .i64 i ∧ p = .int .i64 (prevOf (runR ids ops it s d)) ∧ MEInv w wr v8 v9 ((runR ids ops it s d).foldl (fun E r => Plain.addE E r v) E0)) (fun _ _ _ t _ _ => j - (intOf t).toNat)
                    case atStart => exact ⟨0, s, rfl, hTs, by rw [HKV.out]; congr 1; omega, rfl, hME⟩
                    case round =>
                      clear hME z4
                      obtain ⟨d, i, hdi, hij, rfl, rfl, hMq⟩ := hrel
                      have hrl := runR_le ids ops it s d
                      have hEl := Plain.foldE_le (runR ids ops it s d) v E0
                      have HDI := (show Hid _ from hdi)
                      by_cases hij2 : i < j
                      · have y1 := hMq.cell (q1.out i (by omega))
                        have y4 := hMq.cell (q4.out i (by omega))
                        have yN := hMq.cell (qN.out i (by omega))
                        have x1 : wr.cell? ⟨b1, o1 + j, none⟩ = some (.string it) := by have := hMq.cell (q1.out j hlt); rw [HO.out] at this; exact this
                        have hio : isOp ids ops 2 it i = (decide (0 ≤ nodeI ids ops i) && (decide ((ops.getD i opZero).kind = 2) && decide ((ops.getD i opZero).item = it))) := rfl
                        obtain ⟨kw, hkw⟩ : ∃ x, (ops.getD i opZero).kind = x := ⟨_, rfl⟩
                        obtain ⟨iv, hiv⟩ : ∃ x, (ops.getD i opZero).item = x := ⟨_, rfl⟩
                        rw [hkw, hiv] at hio
                        rw [hkw] at y4; rw [hiv] at y1
                        obtain ⟨P, hP⟩ : ∃ P, prevOf (runR ids ops it s d) = P := ⟨_, rfl⟩
                        have HP := (show Hid _ from hP)
                        rw [hP]
                        have hlen : ((runR ids ops it s d).foldl (fun E r => Plain.addE E r v) E0).length ≤ 20000000 := by omega
                        clear hkw hiv hdi hrl hEl hP
                        cases hnd : nd ids ops i with
                        | none =>
                          have e0 := nodeI_none hnd
                          rw [e0] at yN hio
                          have HI : Hid (isOp ids ops 2 it i = false) := by rw [hio]; exact rfl
                          clear hio e0 hnd hlen
                          go_wp2_with fail
                          go_quiet (fail)
                          go_wp2_with fail
                          go_roundw
                          case rel => exact ⟨d + 1, i + 1, by have := HDI.out; omega, by omega, by go_num, by rw [runR_no HDI.out HI.out, HP.out], by rw [runR_no HDI.out HI.out]; exact hMq.quiet (fun own => (Fr.refl _ _ _).drewN _)⟩
                          case measure => simp [intOf]; omega
                        | some u =>
                          have e0 := nodeI_some hnd
                          rw [e0] at yN hio
                          have hu : decide ((u : Int) ≥ 0) = true := by simp
                          by_cases g2 : (kw == 2) = true
                          · by_cases g3 : (iv.toList == it.toList) = true
                            · have HI : Hid (isOp ids ops 2 it i = true) := by rw [hio, ← str_eq, g3]; simp at g2; simp [g2, Hid]
                              have HN := (show Hid _ from e0)
                              clear hio e0 hnd
                              by_cases g4 : ((u : Int) != P) = true
                              · have HR : Hid (runR ids ops it s (d + 1) = runR ids ops it s d ++ [(u : Int)]) := by
                                  have := runR_yes HDI.out HI.out HN.out
                                  rw [once_new (by rw [HP.out]; exact g4)] at this
                                  exact this
                                by_cases g5 : ((u : Int) != (v : Int)) = true
                                · have HG5 := (show Hid _ from g5)
                                  go_wp2_with fail
                                  go_quiet (fail)
                                  have hMq2 := hMq.quiet (fun own => (Fr.refl _ _ _).drewN nq)
                                  have yN2 := hMq2.cell (qN.out i (by omega))
                                  rw [HN.out] at yN2
                                  clear yN y1 y4 x1 hMq
                                  generalize wr.drewN nq = W at hMq2 yN2 ⊢
                                  obtain ⟨own, F, h8, h9⟩ := hMq2
                                  obtain ⟨E, hE2⟩ : ∃ E, (runR ids ops it s d).foldl (fun E r => Plain.addE E r v) E0 = E := ⟨_, rfl⟩
                                  rw [hE2] at h8 h9 hlen
                                  have hlX : (E.map (fun p => (p.1 : Int))).length ≤ 20000000 := by rw [List.length_map]; exact hlen
                                  have hlY : (E.map (fun p => (p.2 : Int))).length ≤ 20000000 := by rw [List.length_map]; exact hlen
                                  obtain ⟨X, hX⟩ : ∃ X, E.map (fun p => (p.1 : Int)) = X := ⟨_, rfl⟩
                                  obtain ⟨Y, hY⟩ : ∃ Y, E.map (fun p => (p.2 : Int)) = Y := ⟨_, rfl⟩
                                  rw [hX] at h8 hlX; rw [hY] at h9 hlY
                                  obtain ⟨a8, k8, rfl, _⟩ := h8.form
                                  obtain ⟨a9, k9, rfl, _⟩ := h9.form
                                  have HX := (show Hid _ from hX); have HY := (show Hid _ from hY); have HE := (show Hid _ from hE2)
                                  clear hX hY hlen hE2
                                  go_upto_region 29 with (at_builtin; refine wpList_append_lies _ rfl _ _ 22 rfl 0 3 i0 (.int .i64 0) 1 8 Try.underlying22 hi hz0 hz1 hz2 rfl (by decide) (.slice a8 X.length k8) X.length (X.map (Value.int .i64)) rfl (by exact h8.1.alloc _) ⟨W.heap.size, 0, none⟩ 1 1 [.int .i64 (u : Int)] rfl rfl (by exact cell_one_new _ _ _) (ints_oneCell .i64 [(u : Int)]) (by decide) (by unfold maxLen; omega) (by omega) (Nat.zero_le _) (W.heap.size + 1) (by simp) ?_; intro g cp w3 hown hgrow hat hlt3)
                                  obtain ⟨own2, F2, R8⟩ := h8.push ((Fr.refl _ _ _).alloc0 _) (by exact hown) (by exact hgrow) (by simpa using hat)
                                  have R9 := h9.fr F2 (by decide)
                                  clear hown hgrow hat
                                  go_wp2_with (at_builtin; refine wpList_append_lies _ rfl _ _ 22 rfl 0 3 i0 (.int .i64 0) 1 8 Try.underlying22 hi hz0 hz1 hz2 rfl (by decide) (.slice a9 Y.length k9) Y.length (Y.map (Value.int .i64)) rfl (by exact R9.1.alloc _) ⟨w3.heap.size, 0, none⟩ 1 1 [.int .i64 (v : Int)] rfl rfl (by exact cell_one_new _ _ _) (ints_oneCell .i64 [(v : Int)]) (by decide) (by unfold maxLen; omega) (by omega) (Nat.zero_le _) (w3.heap.size + 1) (by simp) ?_; intro g2 cp2 w4 hown hgrow hat hlt4)
                                  obtain ⟨own3, F3, R9'⟩ := R9.push ((Fr.refl _ _ _).alloc0 _) (by exact hown) (by exact hgrow) (by simpa using hat)
                                  go_roundw
                                  case rel =>
                                    refine ⟨d + 1, i + 1, by have := HDI.out; omega, by omega, by go_num, by rw [HR.out, prev_push], ?_⟩
                                    rw [HR.out, List.foldl_append]
                                    simp only [List.foldl_cons, List.foldl_nil]
                                    rw [HE.out]
                                    exact MEInv.push ⟨Int.natCast_nonneg u, by simpa using HG5.out⟩ F F2 F3 (by rw [HX.out]; exact R8) (by rw [HY.out]; exact R9')
                                  case measure => simp [intOf]; omega
                                · have g5' : ((u : Int) != (v : Int)) = false := eq_false_of_ne_true g5
                                  clear g5 hlen
                                  go_wp2_with fail
                                  go_quiet (fail)
                                  go_wp2_with fail
                                  go_roundw
                                  case rel =>
                                    refine ⟨d + 1, i + 1, by have := HDI.out; omega, by omega, by go_num, by rw [HR.out, prev_push], ?_⟩
                                    rw [HR.out, List.foldl_append]
                                    simp only [List.foldl_cons, List.foldl_nil]
                                    rw [addE_not _ _ _ (by simp at g5'; omega)]
                                    exact hMq.quiet (fun own => (Fr.refl _ _ _).drewN _)
                                  case measure => simp [intOf]; omega
                              · have g4' : ((u : Int) != P) = false := eq_false_of_ne_true g4
                                have HR : Hid (runR ids ops it s (d + 1) = runR ids ops it s d) := by
                                  have := runR_yes HDI.out HI.out HN.out
                                  rw [once_same (by rw [HP.out]; exact g4')] at this
                                  exact this
                                clear g4 hlen
                                go_wp2_with fail
                                go_quiet (fail)
                                go_wp2_with fail
                                go_roundw
                                case rel => exact ⟨d + 1, i + 1, by have := HDI.out; omega, by omega, by go_num, by rw [HR.out, HP.out], by rw [HR.out]; exact hMq.quiet (fun own => (Fr.refl _ _ _).drewN _)⟩
                                case measure => simp [intOf]; omega
                            · have g3' : (iv.toList == it.toList) = false := eq_false_of_ne_true g3
                              have HI : Hid (isOp ids ops 2 it i = false) := by rw [hio, ← str_eq, g3']; simp [Hid]
                              clear hio e0 hnd g3 hlen
                              go_wp2_with fail
                              go_quiet (fail)
                              go_wp2_with fail
                              go_roundw
                              case rel => exact ⟨d + 1, i + 1, by have := HDI.out; omega, by omega, by go_num, by rw [runR_no HDI.out HI.out, HP.out], by rw [runR_no HDI.out HI.out]; exact hMq.quiet (fun own => (Fr.refl _ _ _).drewN _)⟩
                              case measure => simp [intOf]; omega
                          · have g2' : (kw == 2) = false := eq_false_of_ne_true g2
                            have HI : Hid (isOp ids ops 2 it i = false) := by rw [hio]; simp at g2; simp [g2, Hid]
                            clear hio e0 hnd g2 hlen
                            go_wp2_with fail
                            go_quiet (fail)
                            go_wp2_with fail
                            go_roundw
                            case rel => exact ⟨d + 1, i + 1, by have := HDI.out; omega, by omega, by go_num, by rw [runR_no HDI.out HI.out, HP.out], by rw [runR_no HDI.out HI.out]; exact hMq.quiet (fun own => (Fr.refl _ _ _).drewN _)⟩
                            case measure => simp [intOf]; omega
                      · have hdj : Hid (d = j - s) := by show d = j - s; omega
                        have hijj : i = j := by omega
                        subst hijj
                        clear hij2 hdi hrl hEl
                        go_wp2_with fail
                        go_roundw
                        case rel => exact ⟨i + 1, by omega, by go_num, by rw [hE.out, hRr.out, ← hdj.out]; exact hMq⟩
                        case measure => simp [intOf]; omega
        · have hE : Hid ((gsAt ids ops (j + 1)).E = (gsAt ids ops j).E) := by
            rw [hgs]; simp only [Plain.gstep, hl, Hid]
            rw [if_neg (by omega), if_neg (by omega)]
          rw [decide_eq_false hk] at hia
          clear hgs htell hnd e9 hl ho hk
          go_wp2_with (go_at_call 24; refine hia.mono ?_; rintro e w' ⟨rfl, rfl⟩)
          go_roundw
          case rel => exact ⟨j + 1, by omega, by go_num, by rw [hE.out]; exact hME⟩
          case measure => simp [intOf]; omega
    · have hje : j = ops.length := by omega
      subst hje
      go_wp2_with fail
      go_ret2
      exact ⟨_, _, rfl, hME⟩

end Go.Proofs.Qxb6602416a
