import Derived.Test.Qxb6602416aGStart
import Derived.Deep.QuietTactic
import Derived.BigQuiet
import Derived.BigRegion
import Derived.Deep.DeepCutAuto
namespace Go.Proofs.Qxb6602416a
open Go.RowKit
set_option linter.unusedVariables false

/-- The state behind the first k ops. -/
def gsAt (ids : List Int) (ops : List OpR) (k : Nat) : Plain.GS := (ops.take k).foldl (fun s o => Plain.gstep ids s o.txn o.item o.kind) Plain.GS.zero
theorem gsAt_succ (ids : List Int) (ops : List OpR) (k : Nat) (h : k < ops.length) : gsAt ids ops (k + 1) = Plain.gstep ids (gsAt ids ops k) (ops.getD k opZero).txn (ops.getD k opZero).item (ops.getD k opZero).kind := by
  have e : ops.getD k opZero = ops[k] := by simp [List.getD, h]
  rw [e]
  unfold gsAt
  rw [List.take_succ_eq_append_getElem h, List.foldl_append]
  rfl
theorem gsAt_ok (ids : List Int) (ops : List OpR) (hl : ops.length ≤ 4096) : ∀ k, k ≤ ops.length → Plain.GOk ids.length k (gsAt ids ops k) := by
  intro k
  induction k with
  | zero => intro _; exact Plain.GOk.zero _
  | succ k ih => intro h; rw [gsAt_succ ids ops k (by omega)]; exact (ih (by omega)).step (by omega) _ _ _

theorem zero3 (w : World) : (zeroValue 3).run Try.prog w = .ok (.int .i64 0) w := by kernel_rfl
theorem zero68 (w : World) : (zeroValue 68).run Try.prog w = .ok (.pointer none) w := by kernel_rfl

/-- What the look-up of an item gives: nil, or its access. -/
theorem Acc.ptr {own : Nat → Tag} {w : World} {l : List (ByteArray × Value)} {adr : ByteArray → Nat} {st : ByteArray → Option (Int × List Int)} (h : Acc own w l adr st) (it : ByteArray) :
    ∃ p, (mget l it).getD (.pointer none) = .pointer p ∧ ((p = none ∧ st it = none) ∨ (p = some ⟨adr it, 0, none⟩ ∧ ∃ a, st it = some a)) := by
  cases hs : st it with
  | none => exact ⟨none, by rw [h.none_ it hs]; rfl, .inl ⟨rfl, rfl⟩⟩
  | some a => exact ⟨some ⟨adr it, 0, none⟩, by rw [(h.some_ it a hs).1]; rfl, .inr ⟨rfl, a, rfl⟩⟩

theorem set_acc_none {s : Plain.GS} {it : ByteArray} (h : s.st it = none) : s.acc it = (-1, []) := by simp [Plain.GS.acc, h]
theorem set_acc_some {s : Plain.GS} {it : ByteArray} {a : Int × List Int} (h : s.st it = some a) : s.set s.E it (s.acc it) = s := by
  have e : s.acc it = a := by simp [Plain.GS.acc, h]
  rw [e]
  cases s with
  | mk E st =>
    simp only [Plain.GS.set, Plain.GS.mk.injEq, true_and]
    funext x
    split
    · rename_i hx; rw [hx]; exact h.symm
    · rfl

theorem set_set {s : Plain.GS} {it : ByteArray} {E : List (Nat × Nat)} {a b : Int × List Int} : Plain.GS.set ⟨E, (s.set s.E it a).st⟩ E it b = s.set E it b := by
  simp only [Plain.GS.set, Plain.GS.mk.injEq, true_and]
  funext x
  by_cases h : x = it
  · rw [if_pos h, if_pos h]
  · rw [if_neg h, if_neg h, if_neg h]

theorem gstep_read {ids : List Int} {s : Plain.GS} {tx : Int} {it : ByteArray} {v : Nat} (h : Plain.lastIdx ids tx = some v) : Plain.gstep ids s tx it 2 = s.set (Plain.addE s.E (s.acc it).1 v) it ((s.acc it).1, Plain.once (s.acc it).2 v) := by
  simp [Plain.gstep, h]
theorem gstep_write {ids : List Int} {s : Plain.GS} {tx : Int} {it : ByteArray} {v : Nat} (h : Plain.lastIdx ids tx = some v) : Plain.gstep ids s tx it 3 = s.set ((s.acc it).2.foldl (fun E r => Plain.addE E r v) (Plain.addE s.E (s.acc it).1 v)) it ((v : Int), []) := by
  simp [Plain.gstep, h]
theorem RowT.cut0 {own : Nat → Tag} {w : World} {t : Tag} {a : Option Addr} {n cap : Nat} {xs : List Int} (h : RowT own w t (.slice a n cap) xs) : RowT own w t (.slice a 0 cap) [] := by
  obtain ⟨⟨h1, h2⟩, h3⟩ := h
  refine ⟨⟨by simp, ?_⟩, fun g hg => ?_⟩
  rotate_left
  · cases a with
    | none => cases hg
    | some x => exact h3 g hg
  rcases h2 with ⟨e, h0⟩ | ⟨g, cap', cur, e, hb, hg, _, hm, hs, _⟩
  · cases e; exact .inl ⟨rfl, rfl⟩
  · cases e; exact .inr ⟨g, cap, cur, rfl, hb, hg, Nat.zero_le _, hm, hs, by simp⟩

theorem fold_take_succ (rs : List Int) (v i : Nat) (E : List (Nat × Nat)) (h : i < rs.length) : (rs.take (i + 1)).foldl (fun E r => Plain.addE E r v) E = Plain.addE ((rs.take i).foldl (fun E r => Plain.addE E r v) E) (rs.getD i 0) v := by
  have e : rs.getD i 0 = rs[i] := by simp [List.getD, h]
  rw [e, List.take_succ_eq_append_getElem h, List.foldl_append]
  rfl

set_option maxRecDepth 100000 in
set_option maxHeartbeats 2000000 in
theorem conflictGraph_any (w : World) (Hh T O : Nat) (ts : List (Int × Int)) (ops : List OpR) (hT : w.cell? ⟨Hh, 1, none⟩ = some (.slice (some ⟨T, 0, none⟩) ts.length ts.length)) (hts : TxnsAt w T ts) (hl : ts.length ≤ 4096)
    (hO : w.cell? ⟨Hh, 0, none⟩ = some (.slice (some ⟨O, 0, none⟩) ops.length ops.length)) (hos : OpsAt w O ops) (hlo : ops.length ≤ 4096) :
    Calls Try.prog 26 #[.pointer (some ⟨Hh, 0, none⟩)] w fun e w' => ∃ w1 G S Pd I M v0 own l adr, e = .returned (.pointer (some ⟨G, 0, none⟩)) ∧ Below w.heap.size w w1 ∧ CG w1 w' G S Pd I M (Plain.cids ts) v0 own l adr (gsAt (Plain.cids ts) ops ops.length) ∧
      ∃ a cap, v0 = .slice a (Plain.cids ts).length cap ∧ CellsAt (Value.int .i64) 0 w' a (Plain.cids ts) := by
  obtain ⟨i0, hi, hz0, hz1, hz2⟩ := info_parts Try.info22
  have hmm := @run_makeMap Try.prog
  have hHl : Hh < w.heap.size := World.block_lt_of_cell? w _ hT
  go_enter Try.func26, Try.ntmps26
  go_wp2_with fail
  refine (committedNodes_any w Hh T ts hT hts hl).mono ?_
  rintro e w1 ⟨a, cap, M, rfl, hca, hM, hb1⟩
  have hn : (Plain.cids ts).length ≤ 4096 := Nat.le_trans (Plain.cids_le ts) hl
  generalize hids : Plain.cids ts = ids at hca hM hn
  have hHc := hcell_below hb1 hO
  have hMl := hM.lt
  have hHl1 : Hh < w1.heap.size := Nat.lt_of_lt_of_le hHl hb1.size
  go_wp2_with (first
    | (at_make; refine wpList_make_full _ rfl (.tmp 22) (.tmp 22) 34 rfl 0 22 i0 (.slice none 0 0) 1 Try.underlying34 hi hz0 hz1 .i64 .i64 _ _ ids.length rfl rfl rfl rfl (by rw [hz2]; omega) (by unfold maxLen; omega) (Nat.zero_le _) ?_; intro w2 hS hgS; have g2 := grown_none hgS (heap_alloc_new w1 _); have c20 := cell_of_cells (j := 0) g2 rfl; have c22 := cell_of_cells (j := 2) g2 rfl; have f2 : w2.frozen? ⟨w1.heap.size, 2, none⟩ = false := free_of_cells g2)
    | (at_make; refine wpList_make_full _ rfl (.tmp 32) (.tmp 32) 34 rfl 0 22 i0 (.slice none 0 0) 1 Try.underlying34 hi hz0 hz1 .i64 .i64 _ _ ids.length rfl rfl rfl rfl (by rw [hz2]; omega) (by unfold maxLen; omega) (Nat.zero_le _) ?_; intro w3 hP hgP; have g3 := grown_none hgP (stored_heap g2 rfl); have c33 := cell_of_cells (j := 3) g3 rfl; have f3 : w3.frozen? ⟨w1.heap.size, 3, none⟩ = false := free_of_cells g3; obtain ⟨own0, adr0, hCG0⟩ := cg_start rfl (Below.refl _ _) hM hS hgS hP hgP; have hH4 := hCG0.fr.cell hHc (by simp)))
  clear hS hgS hP hgP g2 g3 c20 c22 f2 c33 f3 hH4 hmm hT hts hl hi hz0 hz1 hz2
  generalize w1.heap.size = G at hCG0 ⊢
  generalize w2.heap.size = Pd at hCG0 ⊢
  generalize w3.heap.size = I at hCG0 ⊢
  generalize G + 1 = S at hCG0 ⊢
  go_loopw [42] (fun i wr => ∃ k : Nat, k ≤ ops.length ∧ i = .int .i64 k ∧ ∃ own l adr, CG w1 wr G S Pd I M ids (.slice a ids.length cap) own l adr (gsAt ids ops k)) (fun i _ => ops.length - (intOf i).toNat)
  case atStart => exact ⟨0, Nat.zero_le _, rfl, own0, [], adr0, hCG0⟩
  case round =>
    clear hCG0
    obtain ⟨k, hk, rfl, own, l, adr, hCG⟩ := hrel
    by_cases hlt : k < ops.length
    · have hoc := hos k hlt
      have hgs := gsAt_succ ids ops k hlt
      obtain ⟨⟨tx, it, va, fr, kd, ve⟩, ho⟩ : ∃ o, ops.getD k opZero = o := ⟨_, rfl⟩
      rw [ho] at hoc hgs
      obtain ⟨q0, q1, q2, q3, q4, q5⟩ := hoc
      have q0 := hCG.fr.cell (hcell_below hb1 q0) (by simp)
      have q1 := hCG.fr.cell (hcell_below hb1 q1) (by simp)
      have q2 := hCG.fr.cell (hcell_below hb1 q2) (by simp)
      have q3 := hCG.fr.cell (hcell_below hb1 q3) (by simp)
      have q4 := hCG.fr.cell (hcell_below hb1 q4) (by simp)
      have q5 := hCG.fr.cell (hcell_below hb1 q5) (by simp)
      clear ho hos
      have HG := (show Hid _ from hgs); clear hgs
      have hOk := gsAt_ok ids ops hlo k hk
      generalize gsAt ids ops k = s at hCG hOk HG
      simp only at q0 q1 q2 q3 q4 q5
      -- the op's own block
      obtain ⟨own1, FA, hown1⟩ : ∃ own1, Fr (fun _ => False) own own1 wr (wr.alloc (.cells #[.int .i64 tx, .string it, .string va, .int .i64 fr, .int .u8 kd, .bool ve] 56)) ∧ own1 wr.heap.size = (0, 0) := ⟨_, (Fr.refl (fun _ => False) own wr).alloc _ (0, 0), by simp⟩
      have hA := hCG.keep FA
      have hop := heap_alloc_new wr (.cells #[.int .i64 tx, .string it, .string va, .int .i64 fr, .int .u8 kd, .bool ve] 56)
      have hg1 := cell_of_cells (j := 1) hA.gr.at_ rfl
      have hlk : ∀ nq, (Instr.lookup 33 (.map (some M)) (.int .i64 tx) true).run Try.prog ((wr.alloc (.cells #[.int .i64 tx, .string it, .string va, .int .i64 fr, .int .u8 kd, .bool ve] 56)).drewN nq) = .ok _ _ := fun nq => MapAt.look (w := (wr.alloc (.cells #[.int .i64 tx, .string it, .string va, .int .i64 fr, .int .u8 kd, .bool ve] 56)).drewN nq) hA.map (key_int Try.underlying3) Try.underlying33 (zero3 _) tx true
      rw [mget_nmap] at hlk
      cases hnd : Plain.lastIdx ids tx with
      | none =>
        rw [hnd] at hlk
        simp only [Option.map_none, Option.getD_none, Option.isSome_none, if_true] at hlk
        go_wp2_with fail
        go_quiet (fail)
        go_wp2
        go_roundw
        case rel => exact ⟨k + 1, by omega, by go_num, _, l, adr, by rw [HG.out]; simp only [Plain.gstep, hnd]; exact hA.keep ((Fr.refl _ _ _).drewN nq)⟩
        case measure => simp [intOf]; omega
      | some v =>
        rw [hnd] at hlk
        simp only [Option.map_some, Option.getD_some, Option.isSome_some, if_true] at hlk
        have hvlt := (Plain.lastIdx_lt ids tx v hnd).1
        have HN := (show Hid _ from hnd); clear hnd
        by_cases hkd : kd = 2 ∨ kd = 3
        · rcases hkd with rfl | rfl
          · go_wp2_with fail
            go_quiet (fail)
            have hB := hA.keep ((Fr.refl _ _ _).drewN nq)
            have hop2 : ((wr.alloc (.cells #[.int .i64 tx, .string it, .string va, .int .i64 fr, .int .u8 2, .bool ve] 56)).drewN nq).heap[wr.heap.size]? = _ := hop
            obtain ⟨p9, hp9, hp9c⟩ := hB.acc.ptr it
            have HP9 := (show Hid _ from hp9); clear hp9
            go_upto_if 74 with (at_lookup; refine wpList_mget rfl _ _ 67 false rfl 68 (key_string Try.underlying9) Try.underlying67 (.pointer none) (zero68 _) I l rfl (by exact hB.its) it rfl (.pointer p9) (by exact HP9.out) ?_)
            go_cut [9] (fun v9 wc => ∃ own2 l2 adr2, v9 = .pointer (some ⟨adr2 it, 0, none⟩) ∧ CG w1 wc G S Pd I M ids (.slice a ids.length cap) own2 l2 adr2 (s.set s.E it (s.acc it)) ∧ wc.heap[wr.heap.size]? = some (.cells #[.int .i64 tx, .string it, .string va, .int .i64 fr, .int .u8 2, .bool ve] 56 (0, 0)) ∧ own2 wr.heap.size = (0, 0))
            case first =>
              rcases hp9c with ⟨rfl, hst⟩ | ⟨rfl, a0, hst⟩
              · go_wp2_with (at_mapUpdate; refine wpList_mput rfl _ _ _ 67 rfl 68 (key_string Try.underlying9) Try.underlying67 I l rfl (by exact hB.its.fr ((Fr.refl (fun _ => False) own _).alloc0 _) (fun x => x)) it (.pointer (some ⟨wr.heap.size + 1, 0, none⟩)) rfl rfl ?_; intro w5 hm5 hg5)
                have hfr := hB.fresh hst hg5 (by simpa using hm5)
                go_meet
                obtain ⟨o2, adr2, had, hC5, F5⟩ := hfr
                rw [set_acc_none hst]
                exact ⟨o2, _, adr2, by rw [had]; simp, hC5, F5.heap hop2 (by rw [hown1]; simp), by rw [F5.tags _ (lt_of_heap hop2)]; exact hown1⟩
              · go_wp2_with fail
                go_meet
                rw [set_acc_some hst]
                exact ⟨_, l, adr, rfl, hB, hop2, hown1⟩
            case rest =>
              clear hB hop2 hop hA hlk FA hg1 q0 q1 q2 q3 q4 q5 HP9 hp9c hCG hown1
              obtain ⟨own2, l2, adr2, rfl, hC, hop, hopT⟩ := hcut
              have hst : (s.set s.E it (s.acc it)).st it = some (s.acc it) := by simp [Plain.GS.set]
              obtain ⟨_, hAt, rv, hAh, hArow⟩ := hC.acc.some_ it _ hst
              have hA0 := cell0_of_two hAh
              have hA1 := cell1_of_two hAh
              obtain ⟨ac1, ac2, ac3, ac4⟩ := hOk.acc it
              have hE := hOk.len
              go_wp2_with fail
              refine (addEdge_any own2 wc G S Pd ids.length _ _ _ (s.acc it).1 v hC.gr ac1 hvlt (by show s.E.length ≤ _; omega)).mono ?_
              rintro e w5 ⟨own5, rfl, F5, hgr5⟩
              have hC5 := hC.edge F5 hgr5
              have hop5 := F5.heap hop (by rw [hopT]; simp)
              have hop54 := cell_of_cells (j := 4) hop5 rfl
              obtain ⟨_, hAt5, rv5, hAh5, hArow5⟩ := hC5.acc.some_ it _ hst
              have hA05 := cell0_of_two hAh5
              have hA15 := cell1_of_two hAh5
              go_wp2_with fail
              refine (appendOnce_any own5 w5 (6, adr2 it) rv5 (s.acc it).2 v hArow5 (by omega)).mono ?_
              rintro e w6 ⟨own6, v6, rfl, F6, hrow6⟩
              obtain ⟨a6, c6, hv6, _⟩ := hrow6.form
              subst hv6
              have hAh6 := F6.heap hAh5 (by rw [hAt5]; simp)
              have hA16 := cell1_of_two hAh6
              have hAf6 : w6.frozen? ⟨adr2 it, 1, none⟩ = false := free_of_cells hAh6
              have hAt6 : own6 (adr2 it) = (5, adr2 it) := by rw [F6.tags _ (lt_of_heap hAh5)]; exact hAt5
              have hC7 := hC5.write hst F6 ((Fr.refl _ own6 w6).setCell ⟨adr2 it, 1, none⟩ _ hAt6) (b := ((s.acc it).1, Plain.once (s.acc it).2 v)) (stored_heap hAh6 rfl) hrow6
              rw [set_set] at hC7
              go_wp2_with fail
              go_roundw
              case rel => exact ⟨k + 1, by omega, by go_num, _, _, _, by rw [HG.out, gstep_read HN.out]; exact hC7⟩
              case measure => simp [intOf]; omega
          · go_wp2_with fail
            go_quiet (fail)
            have hB := hA.keep ((Fr.refl _ _ _).drewN nq)
            have hop2 : ((wr.alloc (.cells #[.int .i64 tx, .string it, .string va, .int .i64 fr, .int .u8 3, .bool ve] 56)).drewN nq).heap[wr.heap.size]? = _ := hop
            obtain ⟨p9, hp9, hp9c⟩ := hB.acc.ptr it
            have HP9 := (show Hid _ from hp9); clear hp9
            go_upto_if 74 with (at_lookup; refine wpList_mget rfl _ _ 67 false rfl 68 (key_string Try.underlying9) Try.underlying67 (.pointer none) (zero68 _) I l rfl (by exact hB.its) it rfl (.pointer p9) (by exact HP9.out) ?_)
            go_cut [9] (fun v9 wc => ∃ own2 l2 adr2, v9 = .pointer (some ⟨adr2 it, 0, none⟩) ∧ CG w1 wc G S Pd I M ids (.slice a ids.length cap) own2 l2 adr2 (s.set s.E it (s.acc it)) ∧ wc.heap[wr.heap.size]? = some (.cells #[.int .i64 tx, .string it, .string va, .int .i64 fr, .int .u8 3, .bool ve] 56 (0, 0)) ∧ own2 wr.heap.size = (0, 0))
            case first =>
              rcases hp9c with ⟨rfl, hst⟩ | ⟨rfl, a0, hst⟩
              · go_wp2_with (at_mapUpdate; refine wpList_mput rfl _ _ _ 67 rfl 68 (key_string Try.underlying9) Try.underlying67 I l rfl (by exact hB.its.fr ((Fr.refl (fun _ => False) own _).alloc0 _) (fun x => x)) it (.pointer (some ⟨wr.heap.size + 1, 0, none⟩)) rfl rfl ?_; intro w5 hm5 hg5)
                have hfr := hB.fresh hst hg5 (by simpa using hm5)
                go_meet
                obtain ⟨o2, adr2, had, hC5, F5⟩ := hfr
                rw [set_acc_none hst]
                exact ⟨o2, _, adr2, by rw [had]; simp, hC5, F5.heap hop2 (by rw [hown1]; simp), by rw [F5.tags _ (lt_of_heap hop2)]; exact hown1⟩
              · go_wp2_with fail
                go_meet
                rw [set_acc_some hst]
                exact ⟨_, l, adr, rfl, hB, hop2, hown1⟩
            case rest =>
              clear hB hop2 hop hA hlk FA hg1 q0 q1 q2 q3 q4 q5 HP9 hp9c hCG hown1
              obtain ⟨own2, l2, adr2, rfl, hC, hop, hopT⟩ := hcut
              have hst : (s.set s.E it (s.acc it)).st it = some (s.acc it) := by simp [Plain.GS.set]
              obtain ⟨_, hAt, rv, hAh, hArow⟩ := hC.acc.some_ it _ hst
              have hA0 := cell0_of_two hAh
              have hA1 := cell1_of_two hAh
              obtain ⟨ac1, ac2, ac3, ac4⟩ := hOk.acc it
              have hE := hOk.len
              go_wp2_with fail
              refine (addEdge_any own2 wc G S Pd ids.length _ _ _ (s.acc it).1 v hC.gr ac1 hvlt (by show s.E.length ≤ _; omega)).mono ?_
              rintro e w5 ⟨own5, rfl, F5, hgr5⟩
              have hC5 := hC.edge F5 hgr5
              have hop5 := F5.heap hop (by rw [hopT]; simp)
              have hop54 := cell_of_cells (j := 4) hop5 rfl
              obtain ⟨_, hAt5, rv5, hAh5, hArow5⟩ := hC5.acc.some_ it _ hst
              have hA05 := cell0_of_two hAh5
              have hA15 := cell1_of_two hAh5
              obtain ⟨a5, c5, hv5, hcells5⟩ := hArow5.form
              subst hv5
              go_wp2_with fail
              generalize hrs : (s.acc it).2 = rs at *
              have hst5 : (⟨Plain.addE s.E (s.acc it).1 v, (s.set s.E it (s.acc it)).st⟩ : Plain.GS).st it = some (s.acc it) := hst
              go_loopw [105] (fun t wr2 => ∃ i : Nat, i ≤ rs.length ∧ t = .int .i64 i ∧ ∃ own7, Fr (fun t => t.1 = 1 ∨ t.1 = 2 ∨ t.1 = 3) own5 own7 w5 wr2 ∧ CG w1 wr2 G S Pd I M ids (.slice a ids.length cap) own7 l2 adr2 ⟨(rs.take i).foldl (fun E r => Plain.addE E r v) (Plain.addE s.E (s.acc it).1 v), (s.set s.E it (s.acc it)).st⟩) (fun t _ => rs.length - (intOf t).toNat)
              case atStart => exact ⟨0, Nat.zero_le _, rfl, own5, Fr.refl _ _ _, hC5⟩
              case round =>
                obtain ⟨i, hi1, rfl, own7, F7, hC7⟩ := hrel
                by_cases hlt2 : i < rs.length
                · obtain ⟨b5, off5, rfl, hcc5⟩ := hcells5 (by omega)
                  have hc7 := F7.cell (hcc5 i hlt2) (by have := hArow5.2 b5 rfl; show ¬ _; rw [this]; simp)
                  have eget : rs.getD i 0 = rs[i] := by simp [List.getD, hlt2]
                  have hr7 := ac3 rs[i] (List.getElem_mem hlt2)
                  have hE7 := Plain.foldE_le (rs.take i) v (Plain.addE s.E (s.acc it).1 v)
                  have hE8 := Plain.addE_le s.E (s.acc it).1 v
                  have hE9 : (rs.take i).length ≤ i := List.length_take_le _ _
                  have HE := (show Hid _ from fold_take_succ rs v i (Plain.addE s.E (s.acc it).1 v) hlt2)
                  rw [eget] at hc7 HE
                  clear eget
                  go_wp2_with fail
                  refine (addEdge_any own7 wr G S Pd ids.length _ _ _ rs[i] v hC7.gr hr7.2 hvlt (by simp only; omega)).mono ?_
                  rintro e w8 ⟨own8, rfl, F8, hgr8⟩
                  have hC8 := hC7.edge F8 hgr8
                  go_wp2_with fail
                  go_roundw
                  case rel => exact ⟨i + 1, by omega, by go_num, own8, F7.trans F8, by rw [HE.out]; exact hC8⟩
                  case measure => simp [intOf]; omega
                · have hie : rs.take i = rs := List.take_of_length_le (by omega)
                  rw [hie] at hC7
                  have hAh7 := F7.heap hAh5 (by rw [hAt5]; simp)
                  have hAt7 : own7 (adr2 it) = (5, adr2 it) := by rw [F7.tags _ (lt_of_heap hAh5)]; exact hAt5
                  have hA07 := cell0_of_two hAh7
                  have hA17 := cell1_of_two hAh7
                  have hAf07 : wr.frozen? ⟨adr2 it, 0, none⟩ = false := free_of_cells hAh7
                  have hAf17 : wr.frozen? ⟨adr2 it, 1, none⟩ = false := free_of_cells hAh7
                  have hrow7 := (hArow5.fr F7 (by simp)).cut0
                  clear hie hcells5 hC5 hC hop hop5 hop54 hA05 hA15 hA0 hA1 hAh hArow hgr5
                  go_wp2_with fail
                  have hfin : ∀ W, Fr (fun t => t = (5, adr2 it)) own7 own7 wr W → W.heap[adr2 it]? = some (.cells #[.int .i64 (v : Int), .slice a5 0 c5] 70 (0, 0)) → CG w1 W G S Pd I M ids (.slice a ids.length cap) own7 l2 adr2 (gsAt ids ops (k + 1)) := fun W FW hW => by
                    have := hC7.write hst5 (Fr.refl _ own7 wr) FW (b := ((v : Int), [])) hW hrow7
                    rw [set_set] at this
                    rw [HG.out, gstep_write HN.out, hrs]
                    exact this
                  have HF := (show Hid _ from hfin); clear hfin
                  go_region
                  all_goals
                    go_wp2_with fail
                    go_roundw
                    case rel => exact ⟨k + 1, by omega, by go_num, own7, l2, adr2, HF.out _ (((Fr.refl _ own7 wr).setCell _ _ hAt7).setCell _ _ hAt7).drew (stored_heap (stored_heap hAh7 rfl) rfl)⟩
                    case measure => simp [intOf]; omega
        · have hk2 : (kd != 2) = true := by simp; omega
          have hk3 : (kd != 3) = true := by simp; omega
          go_wp2_with fail
          go_quiet (fail)
          go_wp2
          go_roundw
          case rel => exact ⟨k + 1, by omega, by go_num, _, l, adr, by rw [HG.out]; simp only [Plain.gstep, HN.out]; rw [if_neg (by omega), if_neg (by omega)]; exact hA.keep ((Fr.refl _ _ _).drewN nq)⟩
          case measure => simp [intOf]; omega
    · have hke : k = ops.length := by omega
      subst hke
      go_wp2_with fail
      go_ret
      have hB : Below w1.heap.size w1 wr := hCG.fr.below (Nat.le_refl _) (fun b _ => by simp)
      refine ⟨w1, G, S, Pd, I, M, .slice a ids.length cap, own, l, adr, rfl, hb1, ?_, a, cap, ?_, ?_⟩
      · rw [hids]; exact hCG
      · rw [hids]
      · rw [hids]; exact hca.below hB

end Go.Proofs.Qxb6602416a
