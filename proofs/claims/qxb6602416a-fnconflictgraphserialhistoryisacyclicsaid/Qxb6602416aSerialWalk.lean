import Derived.Test.Qxb6602416aLawA
import Derived.Test.Qxb6602416aBytes20
namespace Go.Proofs.Qxb6602416a
open Go.RowKit
set_option linter.unusedVariables false

set_option maxRecDepth 100000 in
set_option maxHeartbeats 2000000 in
/-- Op slices or txn slices of unlike lengths: true. -/
theorem serial_other (w : World) (a0 a1 a2 a3 a4 a5 a6 a7 a10 : Option Addr) (n0 n3 n4 n5 n6 n7 n10 c0 c1 c2 c3 c4 c5 c6 c7 c10 : Nat) (b8 b9 : Bool) (s1 s2 : List ByteArray)
    (h1 : CellsAt .string ByteArray.empty w a1 s1) (h2 : CellsAt .string ByteArray.empty w a2 s2) (hne : ¬ (s1.length = n0 ∧ s2.length = n0 ∧ n3 = n0 ∧ n4 = n0 ∧ n5 = n0 ∧ n7 = n6)) :
    Calls Try.prog 4 #[.slice a0 n0 c0, .slice a1 s1.length c1, .slice a2 s2.length c2, .slice a3 n3 c3, .slice a4 n4 c4, .slice a5 n5 c5, .slice a6 n6 c6, .slice a7 n7 c7, .bool b8, .bool b9, .slice a10 n10 c10] w
      fun e w' => e = .returned (.bool true) ∧ Below w.heap.size w w' := by
  have HNE := (show Hid _ from hne); clear hne
  go_enter Try.func4, Try.ntmps4
  go_wp2_with fail
  refine (zzBytes20_any w a0 a1 a2 a3 a4 a5 a6 a7 a10 n0 n3 n4 n5 n6 n7 n10 c0 c1 c2 c3 c4 c5 c6 c7 c10 b8 b9 s1 s2 h1 h2).mono ?_
  rintro e w1 ⟨b, rfl, _, hb1⟩
  cases b with
  | false => go_wp2; go_ret; exact ⟨rfl, hb1⟩
  | true =>
    have h1' := h1.below hb1
    have h2' := h2.below hb1
    go_wp2_with fail
    refine (sizeFits_any w1 a0 a1 a2 a3 a4 a5 a6 a7 a10 n0 n3 n4 n5 n6 n7 n10 c0 c1 c2 c3 c4 c5 c6 c7 c10 s1 s2 h1' h2' True (fun _ => trivial)).mono ?_
    rintro e w2 ⟨b, rfl, _, hb2⟩
    have hB2 := hb1.trans (hb2.mono hb1.size)
    cases b with
    | false => go_wp2; go_ret; exact ⟨rfl, hB2⟩
    | true =>
      go_wp2_with fail
      refine (sameLengths_any w2 a0 a1 a2 a3 a4 a5 a6 a7 n0 s1.length s2.length n3 n4 n5 n6 n7 c0 c1 c2 c3 c4 c5 c6 c7).mono ?_
      rintro e w3 ⟨b, rfl, hs, rfl⟩
      cases b with
      | false => go_wp2; go_ret; exact ⟨rfl, hB2⟩
      | true => exact absurd (hs rfl) HNE.out

set_option maxRecDepth 100000 in
set_option maxHeartbeats 2000000 in
theorem serial_same (w : World) (a0 a1 a2 a3 a4 a5 a6 a7 a10 : Option Addr) (c0 c1 c2 c3 c4 c5 c6 c7 c10 : Nat) (b8 b9 : Bool) (ops : List OpR) (ts : List (Int × Int)) (z10 : List Int)
    (h0 : CellsAt (Value.int .i64) 0 w a0 (ops.map (·.txn))) (h1 : CellsAt Value.string ByteArray.empty w a1 (ops.map (·.item))) (h2 : CellsAt Value.string ByteArray.empty w a2 (ops.map (·.value))) (h3 : CellsAt (Value.int .i64) 0 w a3 (ops.map (·.frm)))
    (h4 : CellsAt (Value.int .u8) 0 w a4 (ops.map (·.kind))) (h5 : CellsAt Value.bool false w a5 (ops.map (·.ver))) (h6 : CellsAt (Value.int .i64) 0 w a6 (ts.map (·.1))) (h7 : CellsAt (Value.int .u8) 0 w a7 (ts.map (·.2))) (h10 : CellsAt (Value.int .i64) 0 w a10 z10) :
    Calls Try.prog 4 #[.slice a0 ops.length c0, .slice a1 ops.length c1, .slice a2 ops.length c2, .slice a3 ops.length c3, .slice a4 ops.length c4, .slice a5 ops.length c5, .slice a6 ts.length c6, .slice a7 ts.length c7, .bool b8, .bool b9, .slice a10 z10.length c10] w
      fun e w' => e = .returned (.bool true) ∧ Below w.heap.size w w' := by
  go_enter Try.func4, Try.ntmps4
  go_wp2_with fail
  have k1 := zzBytes20_any w a0 a1 a2 a3 a4 a5 a6 a7 a10 ops.length ops.length ops.length ops.length ts.length ts.length z10.length c0 c1 c2 c3 c4 c5 c6 c7 c10 b8 b9 _ _ h1 h2
  simp only [List.length_map] at k1
  refine k1.mono ?_
  clear k1
  rintro e w1 ⟨b, rfl, _, hb1⟩
  cases b with
  | false => go_wp2; go_ret; exact ⟨rfl, hb1⟩
  | true =>
    go_wp2_with fail
    have k2 := sizeFits_any w1 a0 a1 a2 a3 a4 a5 a6 a7 a10 ops.length ops.length ops.length ops.length ts.length ts.length z10.length c0 c1 c2 c3 c4 c5 c6 c7 c10 _ _ (h1.below hb1) (h2.below hb1) (ops.length ≤ 4096 ∧ ts.length ≤ 4096 ∧ z10.length ≤ 65536) (fun h => ⟨h.1, h.2.2.2.2.2.2.1, h.2.2.2.2.2.2.2.2⟩)
    simp only [List.length_map] at k2
    refine k2.mono ?_
    clear k2
    rintro e w2 ⟨b, rfl, hsz, hb2⟩
    have hB2 := hb1.trans (hb2.mono hb1.size)
    clear hb1 hb2
    cases b with
    | false => go_wp2; go_ret; exact ⟨rfl, hB2⟩
    | true =>
      obtain ⟨hlo, hlt, hl10⟩ := hsz rfl
      clear hsz
      go_wp2_with fail
      refine (sameLengths_any w2 a0 a1 a2 a3 a4 a5 a6 a7 ops.length ops.length ops.length ops.length ops.length ops.length ts.length ts.length c0 c1 c2 c3 c4 c5 c6 c7).mono ?_
      rintro e w3 ⟨b, rfl, _, rfl⟩
      cases b with
      | false => go_wp2; go_ret; exact ⟨rfl, hB2⟩
      | true =>
        go_wp2_with fail
        have k3 := isSerial_any w3 a0 c0 _ (h0.below hB2) (by simp; omega)
        simp only [List.length_map] at k3
        refine k3.mono ?_
        clear k3
        rintro e w4 ⟨b, rfl, hser, hb3⟩
        have hB3 := hB2.trans (hb3.mono hB2.size)
        clear hb3 hB2
        cases b with
        | false => go_wp2; go_ret; exact ⟨rfl, hB3⟩
        | true =>
        have HSER := (show Hid _ from hser rfl); clear hser
        go_wp2_with fail
        refine (cloneInts_n w4 a0 ops.length c0 (ops.map (·.txn)) (by simp) (h0.below hB3) (by omega)).mono ?_
        rintro e v0 ⟨d0, e0, rfl, g0, hb⟩
        have hB4 := hB3.trans (hb.mono hB3.size)
        clear hb
        go_wp2_with fail
        refine (cloneStrings_n v0 a1 ops.length c1 (ops.map (·.item)) (by simp) (h1.below hB4) (by omega)).mono ?_
        rintro e v1 ⟨d1, e1, rfl, g1, hb⟩
        have hB5 := hB4.trans (hb.mono hB4.size)
        have g0 := g0.below hb
        clear hb
        go_wp2_with fail
        refine (cloneStrings_n v1 a2 ops.length c2 (ops.map (·.value)) (by simp) (h2.below hB5) (by omega)).mono ?_
        rintro e v2 ⟨d2, e2, rfl, g2, hb⟩
        have hB6 := hB5.trans (hb.mono hB5.size)
        have g0 := g0.below hb
        have g1 := g1.below hb
        clear hb
        go_wp2_with fail
        refine (cloneInts_n v2 a3 ops.length c3 (ops.map (·.frm)) (by simp) (h3.below hB6) (by omega)).mono ?_
        rintro e v3 ⟨d3, e3, rfl, g3, hb⟩
        have hB7 := hB6.trans (hb.mono hB6.size)
        have g0 := g0.below hb
        have g1 := g1.below hb
        have g2 := g2.below hb
        clear hb
        go_wp2_with fail
        refine (cloneBytes_n v3 a4 ops.length c4 (ops.map (·.kind)) (by simp) (h4.below hB7) (by omega)).mono ?_
        rintro e v4 ⟨d4, e4, rfl, g4, hb⟩
        have hB8 := hB7.trans (hb.mono hB7.size)
        have g0 := g0.below hb
        have g1 := g1.below hb
        have g2 := g2.below hb
        have g3 := g3.below hb
        clear hb
        go_wp2_with fail
        refine (cloneBools_n v4 a5 ops.length c5 (ops.map (·.ver)) (by simp) (h5.below hB8) (by omega)).mono ?_
        rintro e v5 ⟨d5, e5, rfl, g5, hb⟩
        have hB9 := hB8.trans (hb.mono hB8.size)
        have g0 := g0.below hb
        have g1 := g1.below hb
        have g2 := g2.below hb
        have g3 := g3.below hb
        have g4 := g4.below hb
        clear hb
        go_wp2_with fail
        refine (cloneInts_n v5 a6 ts.length c6 (ts.map (·.1)) (by simp) (h6.below hB9) (by omega)).mono ?_
        rintro e v6 ⟨d6, e6, rfl, g6, hb⟩
        have hB10 := hB9.trans (hb.mono hB9.size)
        have g0 := g0.below hb
        have g1 := g1.below hb
        have g2 := g2.below hb
        have g3 := g3.below hb
        have g4 := g4.below hb
        have g5 := g5.below hb
        clear hb
        go_wp2_with fail
        refine (cloneBytes_n v6 a7 ts.length c7 (ts.map (·.2)) (by simp) (h7.below hB10) (by omega)).mono ?_
        rintro e v7 ⟨d7, e7, rfl, g7, hb⟩
        have hB11 := hB10.trans (hb.mono hB10.size)
        have g0 := g0.below hb
        have g1 := g1.below hb
        have g2 := g2.below hb
        have g3 := g3.below hb
        have g4 := g4.below hb
        have g5 := g5.below hb
        have g6 := g6.below hb
        clear hb
        go_wp2_with fail
        refine (cloneInts_n v7 a10 z10.length c10 z10 (rfl) (h10.below hB11) (by omega)).mono ?_
        rintro e v8 ⟨d10, e10, rfl, g10, hb⟩
        have hB12 := hB11.trans (hb.mono hB11.size)
        have g0 := g0.below hb
        have g1 := g1.below hb
        have g2 := g2.below hb
        have g3 := g3.below hb
        have g4 := g4.below hb
        have g5 := g5.below hb
        have g6 := g6.below hb
        have g7 := g7.below hb
        clear hb
        go_wp2_with fail
        refine (zzGraph_any v8 d0 d1 d2 d3 d4 d5 d6 d7 e0 e1 e2 e3 e4 e5 e6 e7 b8 b9 d10 z10.length e10 ops ts g0 g1 g2 g3 g4 g5 g6 g7 hlt hlo).mono ?_
        rintro e u1 ⟨own, S, Pd, M, ai, ci, rfl, hb, hci, hM, hR, hP⟩
        have hB20 := hB12.trans (hb.mono hB12.size)
        have hidl : (Plain.cids ts).length ≤ 4096 := Nat.le_trans (Plain.cids_le ts) hlt
        have hok := gsAt_ok (Plain.cids ts) ops hlo ops.length (Nat.le_refl _)
        have heo := gsAt_eok (Plain.cids ts) ops ops.length (Nat.le_refl _)
        have hRd := hR.rd
        have hEl := hok.len
        have k9 := acyclic_any u1 S (Plain.cids ts).length (Plain.sOf (gsAt (Plain.cids ts) ops ops.length).E) hRd hidl
          (fun x hx => ⟨fun t ht => by
            obtain ⟨b, hb1, rfl⟩ := mem_sOf.1 ht
            obtain ⟨_, i, j, _, _, _, hj⟩ := heo.edge x b hb1
            have := (Plain.lastIdx_lt _ _ _ hj).1
            omega, Nat.le_trans (Plain.sOf_le _ _) (by omega)⟩)
          (fun t ht => Nat.le_trans (cntTo_sOf_le _ _ _) (by omega))
          (rankOf (Plain.cids ts) ops) (fun a t ha ht hm => by
            obtain ⟨b, hb1, hb2⟩ := mem_sOf.1 hm
            have : t = b := by omega
            subst this
            refine serial_rank (fun j hj1 hj2 hj3 i hi => ?_) hb1
            have hq := HSER.out j hj1 (by simpa using hj2)
            have ed : ∀ p, (ops.map (·.txn)).getD p 0 = (ops.getD p opZero).txn := fun p => getD_map (·.txn) ops p opZero
            rw [ed, ed] at hq
            have := hq hj3 i hi
            rw [ed] at this
            exact this)
        clear hok heo hRd hEl hR hP hM hci HSER
        go_wp2_with fail
        refine k9.mono ?_
        rintro e u2 ⟨rfl, hbl⟩
        go_wp2
        go_ret
        exact ⟨rfl, hB20.trans (hbl.mono hB20.size)⟩

/-- The law's walk, at whatever slices. -/
theorem serial_walk (w : World) (a0 a1 a2 a3 a4 a5 a6 a7 a10 : Option Addr) (c0 c1 c2 c3 c4 c5 c6 c7 c10 : Nat) (b8 b9 : Bool) (z0 : List Int) (s1 s2 : List ByteArray) (z3 z4 : List Int) (p5 : List Bool) (z6 z7 z10 : List Int)
    (h0 : CellsAt (Value.int .i64) 0 w a0 z0) (h1 : CellsAt Value.string ByteArray.empty w a1 s1) (h2 : CellsAt Value.string ByteArray.empty w a2 s2) (h3 : CellsAt (Value.int .i64) 0 w a3 z3)
    (h4 : CellsAt (Value.int .u8) 0 w a4 z4) (h5 : CellsAt Value.bool false w a5 p5) (h6 : CellsAt (Value.int .i64) 0 w a6 z6) (h7 : CellsAt (Value.int .u8) 0 w a7 z7) (h10 : CellsAt (Value.int .i64) 0 w a10 z10) :
    Calls Try.prog 4 #[.slice a0 z0.length c0, .slice a1 s1.length c1, .slice a2 s2.length c2, .slice a3 z3.length c3, .slice a4 z4.length c4, .slice a5 p5.length c5, .slice a6 z6.length c6, .slice a7 z7.length c7, .bool b8, .bool b9, .slice a10 z10.length c10] w
      fun e w' => e = .returned (.bool true) ∧ Below w.heap.size w w' := by
  by_cases hs : s1.length = z0.length ∧ s2.length = z0.length ∧ z3.length = z0.length ∧ z4.length = z0.length ∧ p5.length = z0.length ∧ z7.length = z6.length
  · obtain ⟨q1, q2, q3, q4, q5, q7⟩ := hs
    obtain ⟨ops, rfl, rfl, rfl, rfl, rfl, rfl⟩ := ops_of z0 s1 s2 z3 z4 p5 q1 q2 q3 q4 q5
    obtain ⟨ts, rfl, rfl⟩ := txns_of z6 z7 q7
    have := serial_same w a0 a1 a2 a3 a4 a5 a6 a7 a10 c0 c1 c2 c3 c4 c5 c6 c7 c10 b8 b9 ops ts z10 h0 h1 h2 h3 h4 h5 h6 h7 h10
    simp only [List.length_map]
    exact this
  · exact serial_other w a0 a1 a2 a3 a4 a5 a6 a7 a10 _ _ _ _ _ _ _ c0 c1 c2 c3 c4 c5 c6 c7 c10 b8 b9 s1 s2 h1 h2 hs

end Go.Proofs.Qxb6602416a
