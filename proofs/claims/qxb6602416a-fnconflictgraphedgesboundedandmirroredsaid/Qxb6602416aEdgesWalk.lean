import Derived.Test.Qxb6602416aLawB
import Derived.Test.Qxb6602416aBytes23
namespace Go.Proofs.Qxb6602416a
open Go.RowKit
set_option linter.unusedVariables false

set_option maxRecDepth 100000 in
set_option maxHeartbeats 2000000 in
/-- Op slices or txn slices of unlike lengths: true. -/
theorem edges_other (w : World) (a0 a1 a2 a3 a4 a5 a6 a7 a10 : Option Addr) (n0 n3 n4 n5 n6 n7 n10 c0 c1 c2 c3 c4 c5 c6 c7 c10 : Nat) (b8 b9 : Bool) (s1 s2 : List ByteArray)
    (h1 : CellsAt .string ByteArray.empty w a1 s1) (h2 : CellsAt .string ByteArray.empty w a2 s2) (hne : ¬ (s1.length = n0 ∧ s2.length = n0 ∧ n3 = n0 ∧ n4 = n0 ∧ n5 = n0 ∧ n7 = n6)) :
    Calls Try.prog 5 #[.slice a0 n0 c0, .slice a1 s1.length c1, .slice a2 s2.length c2, .slice a3 n3 c3, .slice a4 n4 c4, .slice a5 n5 c5, .slice a6 n6 c6, .slice a7 n7 c7, .bool b8, .bool b9, .slice a10 n10 c10] w
      fun e w' => e = .returned (.bool true) ∧ Below w.heap.size w w' := by
  have HNE := (show Hid _ from hne); clear hne
  go_enter Try.func5, Try.ntmps5
  go_wp2_with fail
  refine (zzBytes23_any w a0 a1 a2 a3 a4 a5 a6 a7 a10 n0 n3 n4 n5 n6 n7 n10 c0 c1 c2 c3 c4 c5 c6 c7 c10 b8 b9 s1 s2 h1 h2).mono ?_
  rintro e w1 ⟨b, rfl, _, hb1⟩
  cases b with
  | false => go_wp2; go_ret; exact ⟨rfl, hb1⟩
  | true =>
    have h1' := h1.below hb1
    have h2' := h2.below hb1
    go_wp2_with fail
    refine (sizeFits_any w1 a0 a1 a2 a3 a4 a5 a6 a7 a10 n0 n3 n4 n5 n6 n7 n10 c0 c1 c2 c3 c4 c5 c6 c7 c10 s1 s2 h1' h2' True (fun _ => trivial)).mono ?_
    rintro e w2 ⟨b, rfl, _, hb2⟩
    have hB2 := hb1.trans (hb2.mono hb1.size)
    cases b with
    | false => go_wp2; go_ret; exact ⟨rfl, hB2⟩
    | true =>
      go_wp2_with fail
      refine (sameLengths_any w2 a0 a1 a2 a3 a4 a5 a6 a7 n0 s1.length s2.length n3 n4 n5 n6 n7 c0 c1 c2 c3 c4 c5 c6 c7).mono ?_
      rintro e w3 ⟨b, rfl, hs, rfl⟩
      cases b with
      | false => go_wp2; go_ret; exact ⟨rfl, hB2⟩
      | true => exact absurd (hs rfl) HNE.out

set_option maxRecDepth 100000 in
set_option maxHeartbeats 2000000 in
theorem edges_same (w : World) (a0 a1 a2 a3 a4 a5 a6 a7 a10 : Option Addr) (c0 c1 c2 c3 c4 c5 c6 c7 c10 : Nat) (b8 b9 : Bool) (ops : List OpR) (ts : List (Int × Int)) (z10 : List Int)
    (h0 : CellsAt (Value.int .i64) 0 w a0 (ops.map (·.txn))) (h1 : CellsAt Value.string ByteArray.empty w a1 (ops.map (·.item))) (h2 : CellsAt Value.string ByteArray.empty w a2 (ops.map (·.value))) (h3 : CellsAt (Value.int .i64) 0 w a3 (ops.map (·.frm)))
    (h4 : CellsAt (Value.int .u8) 0 w a4 (ops.map (·.kind))) (h5 : CellsAt Value.bool false w a5 (ops.map (·.ver))) (h6 : CellsAt (Value.int .i64) 0 w a6 (ts.map (·.1))) (h7 : CellsAt (Value.int .u8) 0 w a7 (ts.map (·.2))) (h10 : CellsAt (Value.int .i64) 0 w a10 z10) :
    Calls Try.prog 5 #[.slice a0 ops.length c0, .slice a1 ops.length c1, .slice a2 ops.length c2, .slice a3 ops.length c3, .slice a4 ops.length c4, .slice a5 ops.length c5, .slice a6 ts.length c6, .slice a7 ts.length c7, .bool b8, .bool b9, .slice a10 z10.length c10] w
      fun e w' => e = .returned (.bool true) ∧ Below w.heap.size w w' := by
  go_enter Try.func5, Try.ntmps5
  go_wp2_with fail
  have k1 := zzBytes23_any w a0 a1 a2 a3 a4 a5 a6 a7 a10 ops.length ops.length ops.length ops.length ts.length ts.length z10.length c0 c1 c2 c3 c4 c5 c6 c7 c10 b8 b9 _ _ h1 h2
  simp only [List.length_map] at k1
  refine k1.mono ?_
  clear k1
  rintro e w1 ⟨b, rfl, _, hb1⟩
  cases b with
  | false => go_wp2; go_ret; exact ⟨rfl, hb1⟩
  | true =>
    go_wp2_with fail
    have k2 := sizeFits_any w1 a0 a1 a2 a3 a4 a5 a6 a7 a10 ops.length ops.length ops.length ops.length ts.length ts.length z10.length c0 c1 c2 c3 c4 c5 c6 c7 c10 _ _ (h1.below hb1) (h2.below hb1) (ops.length ≤ 4096 ∧ ts.length ≤ 4096 ∧ z10.length ≤ 65536) (fun h => ⟨h.1, h.2.2.2.2.2.2.1, h.2.2.2.2.2.2.2.2⟩)
    simp only [List.length_map] at k2
    refine k2.mono ?_
    clear k2
    rintro e w2 ⟨b, rfl, hsz, hb2⟩
    have hB2 := hb1.trans (hb2.mono hb1.size)
    clear hb1 hb2
    cases b with
    | false => go_wp2; go_ret; exact ⟨rfl, hB2⟩
    | true =>
      obtain ⟨hlo, hlt, hl10⟩ := hsz rfl
      clear hsz
      go_wp2_with fail
      refine (sameLengths_any w2 a0 a1 a2 a3 a4 a5 a6 a7 ops.length ops.length ops.length ops.length ops.length ops.length ts.length ts.length c0 c1 c2 c3 c4 c5 c6 c7).mono ?_
      rintro e w3 ⟨b, rfl, _, rfl⟩
      cases b with
      | false => go_wp2; go_ret; exact ⟨rfl, hB2⟩
      | true =>
        go_wp2_with fail
        refine (cloneInts_n w3 a0 ops.length c0 (ops.map (·.txn)) (by simp) (h0.below hB2) (by omega)).mono ?_
        rintro e v0 ⟨d0, e0, rfl, g0, hb⟩
        have hB4 := hB2.trans (hb.mono hB2.size)
        clear hb
        go_wp2_with fail
        refine (cloneStrings_n v0 a1 ops.length c1 (ops.map (·.item)) (by simp) (h1.below hB4) (by omega)).mono ?_
        rintro e v1 ⟨d1, e1, rfl, g1, hb⟩
        have hB5 := hB4.trans (hb.mono hB4.size)
        have g0 := g0.below hb
        clear hb
        go_wp2_with fail
        refine (cloneStrings_n v1 a2 ops.length c2 (ops.map (·.value)) (by simp) (h2.below hB5) (by omega)).mono ?_
        rintro e v2 ⟨d2, e2, rfl, g2, hb⟩
        have hB6 := hB5.trans (hb.mono hB5.size)
        have g0 := g0.below hb
        have g1 := g1.below hb
        clear hb
        go_wp2_with fail
        refine (cloneInts_n v2 a3 ops.length c3 (ops.map (·.frm)) (by simp) (h3.below hB6) (by omega)).mono ?_
        rintro e v3 ⟨d3, e3, rfl, g3, hb⟩
        have hB7 := hB6.trans (hb.mono hB6.size)
        have g0 := g0.below hb
        have g1 := g1.below hb
        have g2 := g2.below hb
        clear hb
        go_wp2_with fail
        refine (cloneBytes_n v3 a4 ops.length c4 (ops.map (·.kind)) (by simp) (h4.below hB7) (by omega)).mono ?_
        rintro e v4 ⟨d4, e4, rfl, g4, hb⟩
        have hB8 := hB7.trans (hb.mono hB7.size)
        have g0 := g0.below hb
        have g1 := g1.below hb
        have g2 := g2.below hb
        have g3 := g3.below hb
        clear hb
        go_wp2_with fail
        refine (cloneBools_n v4 a5 ops.length c5 (ops.map (·.ver)) (by simp) (h5.below hB8) (by omega)).mono ?_
        rintro e v5 ⟨d5, e5, rfl, g5, hb⟩
        have hB9 := hB8.trans (hb.mono hB8.size)
        have g0 := g0.below hb
        have g1 := g1.below hb
        have g2 := g2.below hb
        have g3 := g3.below hb
        have g4 := g4.below hb
        clear hb
        go_wp2_with fail
        refine (cloneInts_n v5 a6 ts.length c6 (ts.map (·.1)) (by simp) (h6.below hB9) (by omega)).mono ?_
        rintro e v6 ⟨d6, e6, rfl, g6, hb⟩
        have hB10 := hB9.trans (hb.mono hB9.size)
        have g0 := g0.below hb
        have g1 := g1.below hb
        have g2 := g2.below hb
        have g3 := g3.below hb
        have g4 := g4.below hb
        have g5 := g5.below hb
        clear hb
        go_wp2_with fail
        refine (cloneBytes_n v6 a7 ts.length c7 (ts.map (·.2)) (by simp) (h7.below hB10) (by omega)).mono ?_
        rintro e v7 ⟨d7, e7, rfl, g7, hb⟩
        have hB11 := hB10.trans (hb.mono hB10.size)
        have g0 := g0.below hb
        have g1 := g1.below hb
        have g2 := g2.below hb
        have g3 := g3.below hb
        have g4 := g4.below hb
        have g5 := g5.below hb
        have g6 := g6.below hb
        clear hb
        go_wp2_with fail
        refine (cloneInts_n v7 a10 z10.length c10 z10 (rfl) (h10.below hB11) (by omega)).mono ?_
        rintro e v8 ⟨d10, e10, rfl, g10, hb⟩
        have hB12 := hB11.trans (hb.mono hB11.size)
        have g0 := g0.below hb
        have g1 := g1.below hb
        have g2 := g2.below hb
        have g3 := g3.below hb
        have g4 := g4.below hb
        have g5 := g5.below hb
        have g6 := g6.below hb
        have g7 := g7.below hb
        clear hb
        go_wp2_with fail
        refine (zzGraph_any v8 d0 d1 d2 d3 d4 d5 d6 d7 e0 e1 e2 e3 e4 e5 e6 e7 b8 b9 d10 z10.length e10 ops ts g0 g1 g2 g3 g4 g5 g6 g7 hlt hlo).mono ?_
        rintro e u1 ⟨own, S, Pd, M, ai, ci, rfl, hb, hci, hM, hR, hP⟩
        have hB20 := hB12.trans (hb.mono hB12.size)
        have hidl : (Plain.cids ts).length ≤ 4096 := Nat.le_trans (Plain.cids_le ts) hlt
        have hok := gsAt_ok (Plain.cids ts) ops hlo ops.length (Nat.le_refl _)
        have heo := gsAt_eok (Plain.cids ts) ops ops.length (Nat.le_refl _)
        have hbd := edges_bound (Plain.cids ts) ops
        have hRd := hR.rd
        have hPd := hP.rd
        have hEl := hok.len
        have hsrc : ∀ p ∈ (gsAt (Plain.cids ts) ops ops.length).E, p.1 < (Plain.cids ts).length ∧ p.2 < (Plain.cids ts).length ∧ p.1 ≠ p.2 := fun p hp => by
          obtain ⟨a, b⟩ := p
          obtain ⟨h1, i, j, _, _, hi, hj⟩ := heo.edge a b hp
          exact ⟨(Plain.lastIdx_lt _ _ _ hi).1, (Plain.lastIdx_lt _ _ _ hj).1, h1⟩
        have hS := sumL_s (Plain.cids ts).length _ (fun p hp => (hsrc p hp).1)
        have hQ := sumL_p (Plain.cids ts).length _ (fun p hp => (hsrc p hp).2.1)
        replace g0 := g0.below hb
        replace g4 := g4.below hb
        clear hok heo hR hP hM hb g1 g2 g3 g5 g6 g7 g10 h0 h1 h2 h3 h4 h5 h6 h7 h10 hB2 hB4 hB5 hB6 hB7 hB8 hB9 hB10 hB11 hB12
        generalize hE : (gsAt (Plain.cids ts) ops ops.length).E = E at *
        generalize hids : Plain.cids ts = ids at *
        have HE := (show Hid _ from hE); clear hE
        have HS := (show Hid _ from hS); clear hS
        have HQ := (show Hid _ from hQ); clear hQ
        have HB := (show Hid _ from hbd); clear hbd
        have hEl2 : E.length ≤ 100000000 := by omega
        go_wp2_with fail
        go_loop [28, 29] (fun c t => ∃ j : Nat, j ≤ ops.length ∧ t = .int .i64 j ∧ c = .int .i64 (accN ids ops j : Nat)) (fun _ t => ops.length - (intOf t).toNat)
        case atStart => exact ⟨0, Nat.zero_le _, rfl, rfl⟩
        case round =>
          obtain ⟨j, hj, rfl, rfl⟩ := hrel
          have hal := accN_le ids ops j
          by_cases hjl : j < ops.length
          · obtain ⟨b0, o0, rfl, r0⟩ := g0 (by simp; omega)
            obtain ⟨b4, o4, rfl, r4⟩ := g4 (by simp; omega)
            replace r0 := r0 j (by simp; omega)
            replace r4 := r4 j (by simp; omega)
            have e0 : (ops.map (·.txn)).getD j 0 = (ops.getD j opZero).txn := getD_map (·.txn) ops j opZero
            have e4 : (ops.map (·.kind)).getD j 0 = (ops.getD j opZero).kind := getD_map (·.kind) ops j opZero
            rw [e0] at r0
            rw [e4] at r4
            have hstep : accN ids ops (j + 1) = accN ids ops j + if (Plain.lastIdx ids (ops.getD j opZero).txn).isSome = true ∧ ((ops.getD j opZero).kind = 2 ∨ (ops.getD j opZero).kind = 3) then 1 else 0 := rfl
            generalize (ops.getD j opZero).txn = tx at *
            generalize (ops.getD j opZero).kind = kd at *
            have HST := (show Hid _ from hstep); clear hstep e0 e4
            have hli := lastIndex_any u1 ai ids.length ci ids tx rfl hci (by omega)
            cases hnd : Plain.lastIdx ids tx with
            | none =>
              have e9 : lastI ids tx = -1 := by unfold lastI; rw [hnd]
              rw [e9] at hli
              rw [hnd] at HST
              go_wp2_with (go_at_call 17; refine hli.mono ?_; rintro e w' ⟨rfl, rfl⟩)
              go_round
              case rel => exact ⟨j + 1, by omega, by go_num, by rw [HST.out]; simp⟩
              case measure => simp [intOf]; omega
            | some v =>
              have e9 : lastI ids tx = (v : Int) := by unfold lastI; rw [hnd]
              rw [e9] at hli
              rw [hnd] at HST
              have hia := isAccess_any u1 kd
              by_cases hk : kd = 2 ∨ kd = 3
              · rw [decide_eq_true hk] at hia
                have HK := (show Hid _ from hk); clear hk
                go_wp2_with (first | (go_at_call 17; refine hli.mono ?_; rintro e w' ⟨rfl, rfl⟩) | (go_at_call 24; refine hia.mono ?_; rintro e w' ⟨rfl, rfl⟩))
                go_round
                case rel => exact ⟨j + 1, by omega, by go_num, by rw [HST.out, if_pos ⟨rfl, HK.out⟩]; go_num⟩
                case measure => simp [intOf]; omega
              · rw [decide_eq_false hk] at hia
                have HK := (show Hid _ from hk); clear hk
                go_wp2_with (first | (go_at_call 17; refine hli.mono ?_; rintro e w' ⟨rfl, rfl⟩) | (go_at_call 24; refine hia.mono ?_; rintro e w' ⟨rfl, rfl⟩))
                go_round
                case rel => exact ⟨j + 1, by omega, by go_num, by rw [HST.out, if_neg (fun h => HK.out h.2)]; go_num⟩
                case measure => simp [intOf]; omega
          · have hje : ops.length = j := by omega
            subst hje
            go_wp2_with fail
            go_loopw [22, 30, 31, 32, 33, 34] (fun _ p q t _ _ wr => ∃ x : Nat, x ≤ ids.length ∧ t = .int .i64 x ∧ p = .int .i64 (sumL (Plain.sOf E) x : Nat) ∧ q = .int .i64 (sumL (Plain.pOf E) x : Nat) ∧ Below u1.heap.size u1 wr) (fun _ _ _ t _ _ _ => ids.length - (intOf t).toNat)
            case atStart => exact ⟨0, Nat.zero_le _, rfl, rfl, rfl, Below.refl _ _⟩
            case round =>
              obtain ⟨x, hx, rfl, rfl, rfl, hbl⟩ := hrel
              have hs1 : sumL (Plain.sOf E) x ≤ 100000000 := by have := sumL_mono (Plain.sOf E) x ids.length hx; have := HS.out; omega
              have hs2 : sumL (Plain.pOf E) x ≤ 100000000 := by have := sumL_mono (Plain.pOf E) x ids.length hx; have := HQ.out; omega
              by_cases hxl : x < ids.length
              · have hn1 : Hid (sumL (Plain.sOf E) (x + 1) = sumL (Plain.sOf E) x + (Plain.sOf E x).length) := rfl
                have hn2 : Hid (sumL (Plain.pOf E) (x + 1) = sumL (Plain.pOf E) x + (Plain.pOf E x).length) := rfl
                have hl1 := Plain.sOf_le E x
                have hl2 := Plain.pOf_le E x
                generalize sumL (Plain.sOf E) x = t1 at *
                generalize sumL (Plain.pOf E) x = t2 at *
                go_wp2_with fail
                go_loopw [22, 33, 34] (fun _ t _ wr => ∃ k : Nat, k ≤ (Plain.sOf E x).length ∧ t = .int .i64 k ∧ Below u1.heap.size u1 wr) (fun _ t _ _ => (Plain.sOf E x).length - (intOf t).toNat)
                case atStart => exact ⟨0, Nat.zero_le _, rfl, hbl⟩
                case round =>
                  clear hbl
                  obtain ⟨k, hk, rfl, hbl⟩ := hrel
                  obtain ⟨aX, cX, hcX, hcells⟩ := hRd.below hbl x hxl
                  by_cases hkl : k < (Plain.sOf E x).length
                  · obtain ⟨bb, hbE, hbe⟩ := mem_sOf.1 (List.getElem_mem hkl)
                    obtain ⟨_, hbn, hbx⟩ := hsrc _ hbE
                    simp only at hbn hbx
                    obtain ⟨aP, cP, hcP, hcellsP⟩ := hPd.below hbl bb hbn
                    have hco1 := fun nq => countOf_any (wr.drewN nq) aX (Plain.sOf E x).length cX (Plain.sOf E x) (bb : Int) rfl (by exact hcells) (by omega)
                    have hco2 := fun nq => countOf_any (wr.drewN nq) aP (Plain.pOf E bb).length cP (Plain.pOf E bb) (x : Int) rfl (by exact hcellsP) (by have := Plain.pOf_le E bb; omega)
                    rw [← count_mirror E x bb] at hco2
                    obtain ⟨b, off, rfl, hcc⟩ := hcells (by omega)
                    have hck := hcc k hkl
                    have hge : (Plain.sOf E x).getD k 0 = (bb : Int) := by simp [List.getD, hkl]; exact hbe
                    rw [hge] at hck
                    have hbx' : ((bb : Int) == (x : Int)) = false := by simp; omega
                    have hC1 := (show Hid _ from hco1); have hC2 := (show Hid _ from hco2)
                    clear hco1 hco2 hcc hcells hcellsP hge hbe hbE hbx
                    go_wp2_with fail
                    go_quiet (first | (go_at_call_of 25 cX; exact Calls.quiet_of_same (hC1.out _)) | (go_at_call_of 25 cP; exact Calls.quiet_of_same (hC2.out _)))
                    go_wp2_with fail
                    go_roundw
                    case rel => exact ⟨k + 1, by omega, by go_num, below_drewN hbl _⟩
                    case measure => simp [intOf]; omega
                  · obtain ⟨aQ, cQ, hcQ, _⟩ := hPd.below hbl x hxl
                    go_wp2_with fail
                    go_roundw
                    case rel => exact ⟨x + 1, by omega, by go_num, by rw [hn1.out]; go_num, by rw [hn2.out]; go_num, hbl⟩
                    case measure => simp [intOf]; omega
              · have hxe : ids.length = x := by omega
                subst hxe
                rw [HS.out, HQ.out]
                have hfin : (E.length : Int) ≤ 2 * (accN ids ops ops.length : Int) := by have := HB.out; omega
                have hal := accN_le ids ops ops.length
                clear hs1 hs2 HS HQ HB
                go_wp2_with fail
                go_ret
                exact ⟨rfl, hB20.trans (hbl.mono hB20.size)⟩

/-- The law's walk, at whatever slices. -/
theorem edges_walk (w : World) (a0 a1 a2 a3 a4 a5 a6 a7 a10 : Option Addr) (c0 c1 c2 c3 c4 c5 c6 c7 c10 : Nat) (b8 b9 : Bool) (z0 : List Int) (s1 s2 : List ByteArray) (z3 z4 : List Int) (p5 : List Bool) (z6 z7 z10 : List Int)
    (h0 : CellsAt (Value.int .i64) 0 w a0 z0) (h1 : CellsAt Value.string ByteArray.empty w a1 s1) (h2 : CellsAt Value.string ByteArray.empty w a2 s2) (h3 : CellsAt (Value.int .i64) 0 w a3 z3)
    (h4 : CellsAt (Value.int .u8) 0 w a4 z4) (h5 : CellsAt Value.bool false w a5 p5) (h6 : CellsAt (Value.int .i64) 0 w a6 z6) (h7 : CellsAt (Value.int .u8) 0 w a7 z7) (h10 : CellsAt (Value.int .i64) 0 w a10 z10) :
    Calls Try.prog 5 #[.slice a0 z0.length c0, .slice a1 s1.length c1, .slice a2 s2.length c2, .slice a3 z3.length c3, .slice a4 z4.length c4, .slice a5 p5.length c5, .slice a6 z6.length c6, .slice a7 z7.length c7, .bool b8, .bool b9, .slice a10 z10.length c10] w
      fun e w' => e = .returned (.bool true) ∧ Below w.heap.size w w' := by
  by_cases hs : s1.length = z0.length ∧ s2.length = z0.length ∧ z3.length = z0.length ∧ z4.length = z0.length ∧ p5.length = z0.length ∧ z7.length = z6.length
  · obtain ⟨q1, q2, q3, q4, q5, q7⟩ := hs
    obtain ⟨ops, rfl, rfl, rfl, rfl, rfl, rfl⟩ := ops_of z0 s1 s2 z3 z4 p5 q1 q2 q3 q4 q5
    obtain ⟨ts, rfl, rfl⟩ := txns_of z6 z7 q7
    have := edges_same w a0 a1 a2 a3 a4 a5 a6 a7 a10 c0 c1 c2 c3 c4 c5 c6 c7 c10 b8 b9 ops ts z10 h0 h1 h2 h3 h4 h5 h6 h7 h10
    simp only [List.length_map]
    exact this
  · exact edges_other w a0 a1 a2 a3 a4 a5 a6 a7 a10 _ _ _ _ _ _ _ c0 c1 c2 c3 c4 c5 c6 c7 c10 b8 b9 s1 s2 h1 h2 hs

end Go.Proofs.Qxb6602416a
