import Derived.Test.Qxb6602416aFill
namespace Go.Proofs.Qxb6602416a
open Go.RowKit
set_option linter.unusedVariables false

set_option maxRecDepth 100000 in
set_option maxHeartbeats 2000000 in
theorem zzGraph_any (w : World) (a0 a1 a2 a3 a4 a5 a6 a7 : Option Addr) (c0 c1 c2 c3 c4 c5 c6 c7 : Nat) (b8 b9 : Bool) (a10 : Option Addr) (n10 c10 : Nat) (ops : List OpR) (ts : List (Int × Int))
    (h0 : CellsAt (Value.int .i64) 0 w a0 (ops.map (·.txn))) (h1 : CellsAt Value.string ByteArray.empty w a1 (ops.map (·.item))) (h2 : CellsAt Value.string ByteArray.empty w a2 (ops.map (·.value))) (h3 : CellsAt (Value.int .i64) 0 w a3 (ops.map (·.frm)))
    (h4 : CellsAt (Value.int .u8) 0 w a4 (ops.map (·.kind))) (h5 : CellsAt Value.bool false w a5 (ops.map (·.ver))) (h6 : CellsAt (Value.int .i64) 0 w a6 (ts.map (·.1))) (h7 : CellsAt (Value.int .u8) 0 w a7 (ts.map (·.2)))
    (hl : ts.length ≤ 4096) (hlo : ops.length ≤ 4096) :
    Calls Try.prog 13 #[.slice a0 ops.length c0, .slice a1 ops.length c1, .slice a2 ops.length c2, .slice a3 ops.length c3, .slice a4 ops.length c4, .slice a5 ops.length c5, .slice a6 ts.length c6, .slice a7 ts.length c7, .bool b8, .bool b9, .slice a10 n10 c10] w
      fun e w' => ∃ own S Pd M a cap, e = .returned (.tuple #[.slice a (Plain.cids ts).length cap, .map (some M), .slice (some ⟨S, 0, none⟩) (Plain.cids ts).length (Plain.cids ts).length, .slice (some ⟨Pd, 0, none⟩) (Plain.cids ts).length (Plain.cids ts).length]) ∧ Below w.heap.size w w' ∧
        CellsAt (Value.int .i64) 0 w' a (Plain.cids ts) ∧ MapAt (Value.int .i64) w' M (nmap (Plain.cids ts)) ∧ Rows2 own w' 0 S (Plain.cids ts).length (Plain.sOf (gsAt (Plain.cids ts) ops ops.length).E) ∧ Rows2 own w' 1 Pd (Plain.cids ts).length (Plain.pOf (gsAt (Plain.cids ts) ops ops.length).E) := by
  obtain ⟨i0, hi, hz0, hz1, hz2⟩ := info_parts Try.info56
  obtain ⟨i1, hi', hz0', hz1', hz2'⟩ := info_parts Try.info59
  go_enter Try.func13, Try.ntmps13
  go_wp2_with (at_make; refine wpList_make_full _ rfl (.tmp 37) (.tmp 37) 49 rfl 0 56 i0 _ 6 Try.underlying49 hi hz0 hz1 .i64 .i64 _ _ ops.length rfl rfl rfl rfl (by rw [hz2]; omega) (by unfold maxLen; omega) (Nat.zero_le _) ?_; intro w2 hS hgS; have g2 := grown_none hgS (heap_alloc_new w _); have c20 := cell_of_cells (j := 0) g2 rfl; have f20 : w2.frozen? ⟨w.heap.size, 0, none⟩ = false := free_of_cells g2)
  have gs := stored_heap (j := 0) (v := .slice (some ⟨w.heap.size + 1, 0, none⟩) ops.length ops.length) g2 rfl
  have hfill : Filled (w2.setCell ⟨w.heap.size, 0, none⟩ (.slice (some ⟨w.heap.size + 1, 0, none⟩) ops.length ops.length)) (w.heap.size + 1) 56 6 ops.length 0 (fun i => opCell (ops.getD i opZero)) := by
    have := filled_made (c := fun i => opCell (ops.getD i opZero)) hS
    obtain ⟨cur, hg, h1, h2⟩ := this
    exact ⟨cur, by rw [Below.heap_setCell _ _ _ _ (by simp)]; simpa using hg, h1, h2⟩
  have hbel : Below w.heap.size w (w2.setCell ⟨w.heap.size, 0, none⟩ (.slice (some ⟨w.heap.size + 1, 0, none⟩) ops.length ops.length)) := ((((Below.refl w.heap.size w).alloc (Nat.le_refl _) _).grown hgS (by simp) (fun k h => by cases h))).setCell (Nat.le_refl _) _
  clear g2 c20 f20 hS hgS
  go_loopw [46] (fun t wr => ∃ k : Nat, k ≤ ops.length ∧ t = .int .i64 k ∧ Below w.heap.size w wr ∧ wr.heap[w.heap.size]? = some (.cells #[.slice (some ⟨w.heap.size + 1, 0, none⟩) ops.length ops.length, .slice none 0 0, .bool b8, .bool b9, .slice a10 n10 c10] 52 (0, 0)) ∧ Filled wr (w.heap.size + 1) 56 6 ops.length k (fun i => opCell (ops.getD i opZero))) (fun t _ => ops.length - (intOf t).toNat)
  case atStart => exact ⟨0, Nat.zero_le _, rfl, hbel, gs, hfill⟩
  case round =>
    clear hbel gs hfill
    obtain ⟨k, hk, rfl, hb, hh, hf⟩ := hrel
    by_cases hlt : k < ops.length
    · obtain ⟨b0, o0, rfl, r0⟩ := h0 (by simp; omega)
      obtain ⟨b1, o1, rfl, r1⟩ := h1 (by simp; omega)
      obtain ⟨b2, o2, rfl, r2⟩ := h2 (by simp; omega)
      obtain ⟨b3, o3, rfl, r3⟩ := h3 (by simp; omega)
      obtain ⟨b4, o4, rfl, r4⟩ := h4 (by simp; omega)
      obtain ⟨b5, o5, rfl, r5⟩ := h5 (by simp; omega)
      have r0 := r0 k (by simp; omega)
      have r1 := r1 k (by simp; omega)
      have r2 := r2 k (by simp; omega)
      have r3 := r3 k (by simp; omega)
      have r4 := r4 k (by simp; omega)
      have r5 := r5 k (by simp; omega)
      have e0 : (ops.map (·.txn)).getD k 0 = (ops.getD k opZero).txn := getD_map (·.txn) ops k opZero
      have e1 : (ops.map (·.item)).getD k ByteArray.empty = (ops.getD k opZero).item := getD_map (·.item) ops k opZero
      have e2 : (ops.map (·.value)).getD k ByteArray.empty = (ops.getD k opZero).value := getD_map (·.value) ops k opZero
      have e3 : (ops.map (·.frm)).getD k 0 = (ops.getD k opZero).frm := getD_map (·.frm) ops k opZero
      have e4 : (ops.map (·.kind)).getD k 0 = (ops.getD k opZero).kind := getD_map (·.kind) ops k opZero
      have e5 : (ops.map (·.ver)).getD k false = (ops.getD k opZero).ver := getD_map (·.ver) ops k opZero
      rw [e0] at r0
      rw [e1] at r1
      rw [e2] at r2
      rw [e3] at r3
      rw [e4] at r4
      rw [e5] at r5
      clear e0 e1 e2 e3 e4 e5 h0 h1 h2 h3 h4 h5
      have l0 : b0 < w.heap.size := World.block_lt_of_cell? w _ r0
      have l1 : b1 < w.heap.size := World.block_lt_of_cell? w _ r1
      have l2 : b2 < w.heap.size := World.block_lt_of_cell? w _ r2
      have l3 : b3 < w.heap.size := World.block_lt_of_cell? w _ r3
      have l4 : b4 < w.heap.size := World.block_lt_of_cell? w _ r4
      have l5 : b5 < w.heap.size := World.block_lt_of_cell? w _ r5
      have r0 := hcell_below hb r0
      have r1 := hcell_below hb r1
      have r2 := hcell_below hb r2
      have r3 := hcell_below hb r3
      have r4 := hcell_below hb r4
      have r5 := hcell_below hb r5
      obtain ⟨⟨tx, it, va, fr, kd, ve⟩, ho⟩ : ∃ o, ops.getD k opZero = o := ⟨_, rfl⟩
      rw [ho] at r0 r1 r2 r3 r4 r5
      simp only at r0 r1 r2 r3 r4 r5
      have HO := (show Hid _ from ho); clear ho
      have rh := cell_of_cells (j := 0) hh rfl
      have n0 : w.heap.size + 1 ≠ b0 := by omega
      have n1 : w.heap.size + 1 ≠ b1 := by omega
      have n2 : w.heap.size + 1 ≠ b2 := by omega
      have n3 : w.heap.size + 1 ≠ b3 := by omega
      have n4 : w.heap.size + 1 ≠ b4 := by omega
      have n5 : w.heap.size + 1 ≠ b5 := by omega
      have n6 : w.heap.size + 1 ≠ w.heap.size := by omega
      obtain ⟨v0, q0⟩ := hf.cell (i := k * 6) (by omega)
      obtain ⟨v1, q1⟩ := hf.cell (i := k * 6 + 1) (by omega)
      obtain ⟨v2, q2⟩ := hf.cell (i := k * 6 + 2) (by omega)
      obtain ⟨v3, q3⟩ := hf.cell (i := k * 6 + 3) (by omega)
      obtain ⟨v4, q4⟩ := hf.cell (i := k * 6 + 4) (by omega)
      obtain ⟨v5, q5⟩ := hf.cell (i := k * 6 + 5) (by omega)
      have qf := hf.free
      go_wp2_with fail
      go_region_held3 (fun w' => w'.cell? ⟨w.heap.size, 0, none⟩ = some (.slice (some ⟨w.heap.size + 1, 0, none⟩) ops.length ops.length) ∧ w'.cell? ⟨b0, o0 + k, none⟩ = some (.int .i64 tx) ∧ w'.cell? ⟨b1, o1 + k, none⟩ = some (.string it) ∧ w'.cell? ⟨b2, o2 + k, none⟩ = some (.string va) ∧ w'.cell? ⟨b3, o3 + k, none⟩ = some (.int .i64 fr) ∧ w'.cell? ⟨b4, o4 + k, none⟩ = some (.int .u8 kd) ∧ w'.cell? ⟨b5, o5 + k, none⟩ = some (.bool ve)) (go_keep) (fail)
      go_wp2_with fail
      go_roundw
      case rel =>
        refine ⟨k + 1, by omega, by go_num, ?_, ?_, ?_⟩
        · exact ((((((hb.setCell (Nat.le_succ _) _).setCell (Nat.le_succ _) _).setCell (Nat.le_succ _) _).setCell (Nat.le_succ _) _).setCell (Nat.le_succ _) _).setCell (Nat.le_succ _) _).drew
        · exact (heap_six _ _ _ _ _ _ _ _ _ _ _ _ _ _ _ (Nat.ne_of_lt (Nat.lt_succ_self _))).trans hh
        · exact hf.store6 hlt (by rw [HO.out]; rfl) (by rw [HO.out]; rfl) (by rw [HO.out]; rfl) (by rw [HO.out]; rfl) (by rw [HO.out]; rfl) (by rw [HO.out]; rfl)
      case measure => simp [intOf]; omega
    · have hke : k = ops.length := by omega
      subst hke
      clear h0 h1 h2 h3 h4 h5 hi hz0 hz1 hz2
      have rh1 := cell_of_cells (j := 1) hh rfl
      have rf1 : wr.frozen? ⟨w.heap.size, 1, none⟩ = false := free_of_cells hh
      have hOl : w.heap.size + 1 < wr.heap.size := by obtain ⟨cur, hg, _⟩ := hf; exact lt_of_heap hg
      have hHl : w.heap.size < wr.heap.size := lt_of_heap hh
      go_wp2_with (at_make; refine wpList_make_full _ rfl (.tmp 83) (.tmp 83) 50 rfl 0 59 i1 _ 2 Try.underlying50 hi' hz0' hz1' .i64 .i64 _ _ ts.length rfl rfl rfl rfl (by rw [hz2']; omega) (by unfold maxLen; omega) (Nat.zero_le _) ?_; intro w3 hS3 hgS3; have g3 := grown_none hgS3 hh; have c31 := cell_of_cells (j := 1) g3 rfl; have f31 : w3.frozen? ⟨w.heap.size, 1, none⟩ = false := free_of_cells g3)
      have hTb : Below w.heap.size w (w3.setCell ⟨w.heap.size, 1, none⟩ (.slice (some ⟨wr.heap.size, 0, none⟩) ts.length ts.length)) := (hb.grown hgS3 (by omega) (fun k h => by cases h)).setCell (Nat.le_refl _) _
      have gs3 := stored_heap (j := 1) (v := .slice (some ⟨wr.heap.size, 0, none⟩) ts.length ts.length) g3 rfl
      have hf3 : Filled (w3.setCell ⟨w.heap.size, 1, none⟩ (.slice (some ⟨wr.heap.size, 0, none⟩) ts.length ts.length)) (w.heap.size + 1) 56 6 ops.length ops.length (fun i => opCell (ops.getD i opZero)) := hf.kept (by rw [Below.heap_setCell _ _ _ _ (by simp), hgS3.block _ hOl (by simp)])
      have hft : Filled (w3.setCell ⟨w.heap.size, 1, none⟩ (.slice (some ⟨wr.heap.size, 0, none⟩) ts.length ts.length)) wr.heap.size 59 2 ts.length 0 (fun i => txnCell (ts.getD i (0, 0))) := (filled_made hS3).kept (Below.heap_setCell _ _ _ _ (by simp; omega))
      clear g3 c31 f31 hS3 hgS3 rh1 rf1 hh hf
      generalize wr.heap.size = T at *
      have hOT : T ≠ w.heap.size + 1 := by omega
      have hHT : T ≠ w.heap.size := by omega
      go_loopw [92] (fun t wr => ∃ k : Nat, k ≤ ts.length ∧ t = .int .i64 k ∧ Below w.heap.size w wr ∧ wr.heap[w.heap.size]? = some (.cells #[.slice (some ⟨w.heap.size + 1, 0, none⟩) ops.length ops.length, .slice (some ⟨T, 0, none⟩) ts.length ts.length, .bool b8, .bool b9, .slice a10 n10 c10] 52 (0, 0)) ∧ Filled wr (w.heap.size + 1) 56 6 ops.length ops.length (fun i => opCell (ops.getD i opZero)) ∧ Filled wr T 59 2 ts.length k (fun i => txnCell (ts.getD i (0, 0)))) (fun t _ => ts.length - (intOf t).toNat)
      case atStart => exact ⟨0, Nat.zero_le _, rfl, hTb, gs3, hf3, hft⟩
      case round =>
        clear hTb gs3 hf3 hft hb
        obtain ⟨k, hk, rfl, hb, hh, hf, hft⟩ := hrel
        by_cases hlt : k < ts.length
        · obtain ⟨b0, o0, rfl, r0⟩ := h6 (by simp; omega)
          obtain ⟨b1, o1, rfl, r1⟩ := h7 (by simp; omega)
          have r0 := r0 k (by simp; omega)
          have r1 := r1 k (by simp; omega)
          have e0 : (ts.map (·.1)).getD k 0 = (ts.getD k (0, 0)).1 := getD_map (·.1) ts k (0, 0)
          have e1 : (ts.map (·.2)).getD k 0 = (ts.getD k (0, 0)).2 := getD_map (·.2) ts k (0, 0)
          rw [e0] at r0
          rw [e1] at r1
          clear e0 e1 h6 h7
          have l0 : b0 < w.heap.size := World.block_lt_of_cell? w _ r0
          have l1 : b1 < w.heap.size := World.block_lt_of_cell? w _ r1
          have r0 := hcell_below hb r0
          have r1 := hcell_below hb r1
          obtain ⟨⟨ti, st⟩, ho⟩ : ∃ o, ts.getD k (0, 0) = o := ⟨_, rfl⟩
          rw [ho] at r0 r1
          simp only at r0 r1
          have HO := (show Hid _ from ho); clear ho
          have rh := cell_of_cells (j := 1) hh rfl
          have n0 : T ≠ b0 := by omega
          have n1 : T ≠ b1 := by omega
          obtain ⟨v0, q0⟩ := hft.cell (i := k * 2) (by omega)
          obtain ⟨v1, q1⟩ := hft.cell (i := k * 2 + 1) (by omega)
          have qf := hft.free
          go_wp2_with fail
          go_region_held3 (fun w' => w'.cell? ⟨w.heap.size, 1, none⟩ = some (.slice (some ⟨T, 0, none⟩) ts.length ts.length) ∧ w'.cell? ⟨b0, o0 + k, none⟩ = some (.int .i64 ti) ∧ w'.cell? ⟨b1, o1 + k, none⟩ = some (.int .u8 st)) (go_keep) (fail)
          go_wp2_with fail
          go_roundw
          case rel =>
            refine ⟨k + 1, by omega, by go_num, ?_, ?_, ?_, ?_⟩
            · exact ((hb.setCell (by simp; omega) _).setCell (by simp; omega) _).drew
            · exact (heap_two _ _ _ _ _ _ _ (Ne.symm hHT)).trans hh
            · exact hf.kept (heap_two _ _ _ _ _ _ _ (Ne.symm hOT))
            · exact hft.store2 hlt (by rw [HO.out]; rfl) (by rw [HO.out]; rfl)
          case measure => simp [intOf]; omega
        · have hke : k = ts.length := by omega
          subst hke
          have hTs : TxnsAt wr T ts := fun i hi => by
            obtain ⟨cur, hg, hs, hc⟩ := hft
            have x0 := hc i 0 hi (by omega)
            have x1 := hc i 1 hi (by omega)
            exact ⟨cell_of_cells hg (by rw [Nat.add_zero] at x0; exact x0), cell_of_cells hg x1⟩
          have hOs : OpsAt wr (w.heap.size + 1) ops := fun i hi => by
            obtain ⟨cur, hg, hs, hc⟩ := hf
            have x0 := hc i 0 hi (by omega)
            have x1 := hc i 1 hi (by omega)
            have x2 := hc i 2 hi (by omega)
            have x3 := hc i 3 hi (by omega)
            have x4 := hc i 4 hi (by omega)
            have x5 := hc i 5 hi (by omega)
            exact ⟨cell_of_cells hg (by rw [Nat.add_zero] at x0; exact x0), cell_of_cells hg x1, cell_of_cells hg x2, cell_of_cells hg x3, cell_of_cells hg x4, cell_of_cells hg x5⟩
          have rh1 := cell_of_cells (j := 1) hh rfl
          have rh0 := cell_of_cells (j := 0) hh rfl
          clear h6 h7
          go_wp2_with fail
          refine (conflictGraph_any wr w.heap.size T (w.heap.size + 1) ts ops rh1 hTs hl rh0 hOs hlo).mono ?_
          rintro e w4 ⟨w1, G, S, Pd, I, M, v0, own, l, adr, rfl, hb1, hCG, a, cap, rfl, hca⟩
          clear hTs hOs hf hft rh0 rh1 hh
          have hg0 := cell_of_cells (j := 0) hCG.gr.at_ rfl
          have hg1 := cell_of_cells (j := 1) hCG.gr.at_ rfl
          have hg2 := cell_of_cells (j := 2) hCG.gr.at_ rfl
          have hg3 := cell_of_cells (j := 3) hCG.gr.at_ rfl
          go_wp2_with fail
          go_quiet (fail)
          go_wp2
          have hB : Below w.heap.size w w4 := hb.trans ((hb1.trans ((hCG.fr.below (Nat.le_refl _) (fun b _ => by simp)).mono hb1.size)).mono hb.size)
          refine bodyPost_ret (v := .tuple #[.slice a (Plain.cids ts).length cap, .map (some M), .slice (some ⟨S, 0, none⟩) (Plain.cids ts).length (Plain.cids ts).length, .slice (some ⟨Pd, 0, none⟩) (Plain.cids ts).length (Plain.cids ts).length]) (by simp [results, Try.results13, go_sem]) rfl ?_
          exact ⟨own, S, Pd, M, a, cap, rfl, below_drewN hB _, hca, hCG.map, hCG.gr.succ, hCG.gr.pred⟩

end Go.Proofs.Qxb6602416a
