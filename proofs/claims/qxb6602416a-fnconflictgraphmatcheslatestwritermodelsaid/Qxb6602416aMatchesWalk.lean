import Derived.Test.Qxb6602416aModel3
import Derived.Test.Qxb6602416aModel4
import Derived.Test.Qxb6602416aLawB
import Derived.Test.Qxb6602416aBytes6
import Derived.Deep.RegionLaw
import Derived.Deep.RegionHeld
namespace Go.Proofs.Qxb6602416a
open Go.RowKit
set_option linter.unusedVariables false
set_option linter.unusedSimpArgs false

theorem MapAt.below {α : Type} [DecidableEq α] {enc : α → Value} {w w' : World} {m : Nat} {l : List (α × Value)} (h : MapAt enc w m l) (hb : Below w.heap.size w w') : MapAt enc w' m l := by
  have hlt := h.lt
  obtain ⟨es, clock, hh, hl⟩ := h
  exact ⟨es, clock, by rw [hb.block m hlt]; exact hh, hl⟩

theorem takeD {P : Program} {md : Region.Mode} {ops : Array Oper} {Q : Exit → Act → World → Prop} {S : World → Prop} {i : Nat} {oi : Oper} (d : Option Nat) {v : Value} {fuel : Nat} {listed : Array Bool} {a : Act} {w : World} (hi : ops[i]? = some oi)
    (hd : oi.dst = d) (hs : Region.noSelect ops = true) (hf : Region.free md ops listed i = true) (hr : (Region.ready md ops listed).contains i = true)
    (hQ : ∀ c a w, Q (.panic c) (a.put oi.dst v) w → Q (.panic c) a w) (hy : YieldsIf P ops S oi v a) (hS : S w)
    (h : wpAnyH P md ops Q S fuel (listed.setIfInBounds i true) (a.put d v) w) : wpAnyH P md ops Q S (fuel + 1) listed a w := by
  subst hd
  exact wpAnyH_take hi hs hf hr hQ hy hS h

/-- The model's two tables of rows, behind the edges F. -/
def WInv (u wr : World) (S P n : Nat) (F : List (Nat × Nat)) : Prop :=
  ∃ own, Fr (fun t => t.1 = 1 ∨ t.1 = 2 ∨ t.1 = 3) (fun _ => (0, 0)) own u wr ∧ Rows2 own wr 0 S n (Plain.sOf F) ∧ Rows2 own wr 1 P n (Plain.pOf F)

theorem mw_start {u w2 w3 : World} {n : Nat} (hS : w2.ownsRow 0 22 1 (.slice (some ⟨u.heap.size, 0, none⟩) n n) n (madeCells (Value.slice none 0 0).cells (n * 1)).toList) (hgS : u.grownBy w2 none)
    (hP : w3.ownsRow 0 22 1 (.slice (some ⟨w2.heap.size, 0, none⟩) n n) n (madeCells (Value.slice none 0 0).cells (n * 1)).toList) (hgP : w2.grownBy w3 none) : WInv u w3 u.heap.size w2.heap.size n [] := by
  have rS := made_rows hS
  have rP := made_rows hP
  have hSl : u.heap.size < w2.heap.size := by obtain ⟨cs, h1, _⟩ := rS; exact lt_of_heap h1
  have hPl : w2.heap.size < w3.heap.size := by obtain ⟨cs, h1, _⟩ := rP; exact lt_of_heap h1
  refine ⟨fun b => if b = u.heap.size then (1, 0) else if b = w2.heap.size then (1, 1) else (0, 0), ⟨hgP.os.trans hgS.os, hgP.tape.trans hgS.tape, hgP.output.trans hgS.output, by omega, fun b hb => ?_, fun b hb _ => ?_⟩, rows2_made (fun i => rfl) (by simp) ?_, rows2_made (fun i => rfl) ?_ rP⟩
  · rw [if_neg (by omega), if_neg (by omega)]
  · rw [hgP.block b (by omega) (by simp), hgS.block b hb (by simp)]
  · obtain ⟨cs, h1, h2, h3⟩ := rS
    exact ⟨cs, by rw [hgP.block _ hSl (by simp)]; exact h1, h2, h3⟩
  · rw [if_neg (by omega), if_pos rfl]

set_option maxRecDepth 100000 in
set_option maxHeartbeats 2000000 in
/-- Op slices or txn slices of unlike lengths: true. -/
theorem matches_other (w : World) (a0 a1 a2 a3 a4 a5 a6 a7 a10 : Option Addr) (n0 n3 n4 n5 n6 n7 n10 c0 c1 c2 c3 c4 c5 c6 c7 c10 : Nat) (b8 b9 : Bool) (s1 s2 : List ByteArray)
    (h1 : CellsAt .string ByteArray.empty w a1 s1) (h2 : CellsAt .string ByteArray.empty w a2 s2) (hne : ¬ (s1.length = n0 ∧ s2.length = n0 ∧ n3 = n0 ∧ n4 = n0 ∧ n5 = n0 ∧ n7 = n6)) :
    Calls Try.prog 3 #[.slice a0 n0 c0, .slice a1 s1.length c1, .slice a2 s2.length c2, .slice a3 n3 c3, .slice a4 n4 c4, .slice a5 n5 c5, .slice a6 n6 c6, .slice a7 n7 c7, .bool b8, .bool b9, .slice a10 n10 c10] w
      fun e w' => e = .returned (.bool true) ∧ Below w.heap.size w w' := by
  have HNE := (show Hid _ from hne); clear hne
  go_enter Try.func3, Try.ntmps3
  go_wp2_with fail
  refine (zzBytes6_any w a0 a1 a2 a3 a4 a5 a6 a7 a10 n0 n3 n4 n5 n6 n7 n10 c0 c1 c2 c3 c4 c5 c6 c7 c10 b8 b9 s1 s2 h1 h2).mono ?_
  rintro e w1 ⟨b, rfl, _, hb1⟩
  cases b with
  | false => go_wp2; go_ret; exact ⟨rfl, hb1⟩
  | true =>
    have h1' := h1.below hb1
    have h2' := h2.below hb1
    go_wp2_with fail
    refine (sizeFits_any w1 a0 a1 a2 a3 a4 a5 a6 a7 a10 n0 n3 n4 n5 n6 n7 n10 c0 c1 c2 c3 c4 c5 c6 c7 c10 s1 s2 h1' h2' True (fun _ => trivial)).mono ?_
    rintro e w2 ⟨b, rfl, _, hb2⟩
    have hB2 := hb1.trans (hb2.mono hb1.size)
    cases b with
    | false => go_wp2; go_ret; exact ⟨rfl, hB2⟩
    | true =>
      go_wp2_with fail
      refine (sameLengths_any w2 a0 a1 a2 a3 a4 a5 a6 a7 n0 s1.length s2.length n3 n4 n5 n6 n7 c0 c1 c2 c3 c4 c5 c6 c7).mono ?_
      rintro e w3 ⟨b, rfl, hs, rfl⟩
      cases b with
      | false => go_wp2; go_ret; exact ⟨rfl, hB2⟩
      | true => exact absurd (hs rfl) HNE.out

set_option maxRecDepth 100000 in
set_option maxHeartbeats 2000000 in
theorem matches_same (w : World) (a0 a1 a2 a3 a4 a5 a6 a7 a10 : Option Addr) (c0 c1 c2 c3 c4 c5 c6 c7 c10 : Nat) (b8 b9 : Bool) (ops : List OpR) (ts : List (Int × Int)) (z10 : List Int)
    (h0 : CellsAt (Value.int .i64) 0 w a0 (ops.map (·.txn))) (h1 : CellsAt Value.string ByteArray.empty w a1 (ops.map (·.item))) (h2 : CellsAt Value.string ByteArray.empty w a2 (ops.map (·.value))) (h3 : CellsAt (Value.int .i64) 0 w a3 (ops.map (·.frm)))
    (h4 : CellsAt (Value.int .u8) 0 w a4 (ops.map (·.kind))) (h5 : CellsAt Value.bool false w a5 (ops.map (·.ver))) (h6 : CellsAt (Value.int .i64) 0 w a6 (ts.map (·.1))) (h7 : CellsAt (Value.int .u8) 0 w a7 (ts.map (·.2))) (h10 : CellsAt (Value.int .i64) 0 w a10 z10) :
    Calls Try.prog 3 #[.slice a0 ops.length c0, .slice a1 ops.length c1, .slice a2 ops.length c2, .slice a3 ops.length c3, .slice a4 ops.length c4, .slice a5 ops.length c5, .slice a6 ts.length c6, .slice a7 ts.length c7, .bool b8, .bool b9, .slice a10 z10.length c10] w
      fun e w' => e = .returned (.bool true) ∧ Below w.heap.size w w' := by
  go_enter Try.func3, Try.ntmps3
  go_wp2_with fail
  have k1 := zzBytes6_any w a0 a1 a2 a3 a4 a5 a6 a7 a10 ops.length ops.length ops.length ops.length ts.length ts.length z10.length c0 c1 c2 c3 c4 c5 c6 c7 c10 b8 b9 _ _ h1 h2
  simp only [List.length_map] at k1
  refine k1.mono ?_
  clear k1
  rintro e w1 ⟨b, rfl, _, hb1⟩
  cases b with
  | false => go_wp2; go_ret; exact ⟨rfl, hb1⟩
  | true =>
    go_wp2_with fail
    have k2 := sizeFits_any w1 a0 a1 a2 a3 a4 a5 a6 a7 a10 ops.length ops.length ops.length ops.length ts.length ts.length z10.length c0 c1 c2 c3 c4 c5 c6 c7 c10 _ _ (h1.below hb1) (h2.below hb1) (ops.length ≤ 4096 ∧ ts.length ≤ 4096 ∧ z10.length ≤ 65536) (fun h => ⟨h.1, h.2.2.2.2.2.2.1, h.2.2.2.2.2.2.2.2⟩)
    simp only [List.length_map] at k2
    refine k2.mono ?_
    clear k2
    rintro e w2 ⟨b, rfl, hsz, hb2⟩
    have hB2 := hb1.trans (hb2.mono hb1.size)
    clear hb1 hb2
    cases b with
    | false => go_wp2; go_ret; exact ⟨rfl, hB2⟩
    | true =>
      obtain ⟨hlo, hlt, hl10⟩ := hsz rfl
      clear hsz
      go_wp2_with fail
      refine (sameLengths_any w2 a0 a1 a2 a3 a4 a5 a6 a7 ops.length ops.length ops.length ops.length ops.length ops.length ts.length ts.length c0 c1 c2 c3 c4 c5 c6 c7).mono ?_
      rintro e w3 ⟨b, rfl, _, rfl⟩
      cases b with
      | false => go_wp2; go_ret; exact ⟨rfl, hB2⟩
      | true =>
        go_wp2_with fail
        refine (cloneInts_n w3 a0 ops.length c0 (ops.map (·.txn)) (by simp) (h0.below hB2) (by omega)).mono ?_
        rintro e v0 ⟨d0, e0, rfl, g0, hb⟩
        have hB4 := hB2.trans (hb.mono hB2.size)
        clear hb
        go_wp2_with fail
        refine (cloneStrings_n v0 a1 ops.length c1 (ops.map (·.item)) (by simp) (h1.below hB4) (by omega)).mono ?_
        rintro e v1 ⟨d1, e1, rfl, g1, hb⟩
        have hB5 := hB4.trans (hb.mono hB4.size)
        have g0 := g0.below hb
        clear hb
        go_wp2_with fail
        refine (cloneStrings_n v1 a2 ops.length c2 (ops.map (·.value)) (by simp) (h2.below hB5) (by omega)).mono ?_
        rintro e v2 ⟨d2, e2, rfl, g2, hb⟩
        have hB6 := hB5.trans (hb.mono hB5.size)
        have g0 := g0.below hb
        have g1 := g1.below hb
        clear hb
        go_wp2_with fail
        refine (cloneInts_n v2 a3 ops.length c3 (ops.map (·.frm)) (by simp) (h3.below hB6) (by omega)).mono ?_
        rintro e v3 ⟨d3, e3, rfl, g3, hb⟩
        have hB7 := hB6.trans (hb.mono hB6.size)
        have g0 := g0.below hb
        have g1 := g1.below hb
        have g2 := g2.below hb
        clear hb
        go_wp2_with fail
        refine (cloneBytes_n v3 a4 ops.length c4 (ops.map (·.kind)) (by simp) (h4.below hB7) (by omega)).mono ?_
        rintro e v4 ⟨d4, e4, rfl, g4, hb⟩
        have hB8 := hB7.trans (hb.mono hB7.size)
        have g0 := g0.below hb
        have g1 := g1.below hb
        have g2 := g2.below hb
        have g3 := g3.below hb
        clear hb
        go_wp2_with fail
        refine (cloneBools_n v4 a5 ops.length c5 (ops.map (·.ver)) (by simp) (h5.below hB8) (by omega)).mono ?_
        rintro e v5 ⟨d5, e5, rfl, g5, hb⟩
        have hB9 := hB8.trans (hb.mono hB8.size)
        have g0 := g0.below hb
        have g1 := g1.below hb
        have g2 := g2.below hb
        have g3 := g3.below hb
        have g4 := g4.below hb
        clear hb
        go_wp2_with fail
        refine (cloneInts_n v5 a6 ts.length c6 (ts.map (·.1)) (by simp) (h6.below hB9) (by omega)).mono ?_
        rintro e v6 ⟨d6, e6, rfl, g6, hb⟩
        have hB10 := hB9.trans (hb.mono hB9.size)
        have g0 := g0.below hb
        have g1 := g1.below hb
        have g2 := g2.below hb
        have g3 := g3.below hb
        have g4 := g4.below hb
        have g5 := g5.below hb
        clear hb
        go_wp2_with fail
        refine (cloneBytes_n v6 a7 ts.length c7 (ts.map (·.2)) (by simp) (h7.below hB10) (by omega)).mono ?_
        rintro e v7 ⟨d7, e7, rfl, g7, hb⟩
        have hB11 := hB10.trans (hb.mono hB10.size)
        have g0 := g0.below hb
        have g1 := g1.below hb
        have g2 := g2.below hb
        have g3 := g3.below hb
        have g4 := g4.below hb
        have g5 := g5.below hb
        have g6 := g6.below hb
        clear hb
        go_wp2_with fail
        refine (cloneInts_n v7 a10 z10.length c10 z10 (rfl) (h10.below hB11) (by omega)).mono ?_
        rintro e v8 ⟨d10, e10, rfl, g10, hb⟩
        have hB12 := hB11.trans (hb.mono hB11.size)
        have g0 := g0.below hb
        have g1 := g1.below hb
        have g2 := g2.below hb
        have g3 := g3.below hb
        have g4 := g4.below hb
        have g5 := g5.below hb
        have g6 := g6.below hb
        have g7 := g7.below hb
        clear hb
        go_wp2_with fail
        refine (zzGraph_any v8 d0 d1 d2 d3 d4 d5 d6 d7 e0 e1 e2 e3 e4 e5 e6 e7 b8 b9 d10 z10.length e10 ops ts g0 g1 g2 g3 g4 g5 g6 g7 hlt hlo).mono ?_
        rintro e u1 ⟨own, S, Pd, M, ai, ci, rfl, hb, hci, hM, hR, hP⟩
        have hB20 := hB12.trans (hb.mono hB12.size)
        have hidl : (Plain.cids ts).length ≤ 4096 := Nat.le_trans (Plain.cids_le ts) hlt
        have hRd := hR.rd
        have hPd := hP.rd
        replace g0 := g0.below hb
        replace g1 := g1.below hb
        replace g4 := g4.below hb
        replace g6 := g6.below hb
        replace g7 := g7.below hb
        clear hb g2 g3 g5 g10 h0 h1 h2 h3 h4 h5 h6 h7 h10 hB2 hB4 hB5 hB6 hB7 hB8 hB9 hB10 hB11 hB12 hR hP
        go_wp2_with fail
        refine (committedIDs_any u1 d6 d7 e6 e7 ts g6 g7 hlt).mono ?_
        rintro e u2 ⟨aw, cw, rfl, hcw, hb⟩
        have hB21 := hB20.trans (hb.mono hB20.size)
        replace g0 := g0.below hb
        replace g1 := g1.below hb
        replace g4 := g4.below hb
        replace hci := hci.below hb
        replace hRd := hRd.below hb
        replace hPd := hPd.below hb
        replace hM := hM.below hb
        clear hb g6 g7 hB20
        generalize hids : Plain.cids ts = ids at *
        go_wp2_with fail
        refine (equalInts_any u2 ai aw ids.length ids.length ci cw ids ids rfl rfl hci hcw (by omega)).mono ?_
        rintro e u3 ⟨rfl, hb⟩
        rw [decide_eq_true (rfl : ids = ids)]
        have hB22 := hB21.trans (hb.mono hB21.size)
        replace g0 := g0.below hb
        replace g1 := g1.below hb
        replace g4 := g4.below hb
        replace hcw := hcw.below hb
        replace hRd := hRd.below hb
        replace hPd := hPd.below hb
        replace hM := hM.below hb
        clear hb hci hB21
        have hmlen : (nmap ids).length = distN ids ids.length := by have := nmap_length ids ids.length (Nat.le_refl _); rwa [List.take_length] at this
        have hrun : ∀ ty, (Builtin.len_ #[33] ty #[.map (some M)]).run Try.prog u3 = .ok (.int .i64 (distN ids ids.length : Nat)) u3 := fun ty => by rw [← hmlen]; exact hM.len Try.underlying33 ty
        have hcd := countDistinct_any u3 aw ids.length cw ids rfl hcw (by omega)
        have hdl := distN_le ids ids.length
        generalize distN ids ids.length = dn at *
        go_wp2_with (go_at_call 16; refine hcd.mono ?_; rintro e u4 ⟨rfl, hb⟩)
        have hB23 := hB22.trans (hb.mono hB22.size)
        replace g0 := g0.below hb
        replace g1 := g1.below hb
        replace g4 := g4.below hb
        replace hcw := hcw.below hb
        replace hRd := hRd.below hb
        replace hPd := hPd.below hb
        replace hM := hM.below hb
        clear hb hB22 hrun hcd hmlen hdl
        go_loop [22, 29, 30, 31] (fun _ t _ _ => ∃ k : Nat, k ≤ ids.length ∧ t = .int .i64 k) (fun _ t _ _ => ids.length - (intOf t).toNat)
        case atStart => exact ⟨0, Nat.zero_le _, rfl⟩
        case round =>
          obtain ⟨k, hk, rfl⟩ := hrel
          by_cases hkl : k < ids.length
          · have hli0 := fun x => lastIndex_any u4 aw ids.length cw ids x rfl hcw (by omega)
            obtain ⟨bw, ow, rfl, rw_⟩ := hcw (by omega)
            have hck := rw_ k hkl
            have hmem : ids.getD k 0 ∈ ids := by simp [List.getD, hkl]
            obtain ⟨x, hx⟩ : ∃ x, ids.getD k 0 = x := ⟨_, rfl⟩
            rw [hx] at hck hmem
            have hlk : (Instr.lookup 33 (.map (some M)) (.int .i64 x) true).run Try.prog u4 = .ok _ _ := MapAt.look (w := u4) hM (key_int Try.underlying3) Try.underlying33 (z := .int .i64 0) (zero3 _) x true
            rw [mget_nmap] at hlk
            have hli := hli0 x
            cases hnd : Plain.lastIdx ids x with
            | none => exact absurd hmem (by have := (Plain.lastIdx_none ids x).1 hnd; simpa using this)
            | some v =>
              have e9 : lastI ids x = (v : Int) := by unfold lastI; rw [hnd]
              rw [e9] at hli
              rw [hnd] at hlk
              simp only [Option.map_some, Option.getD_some, Option.isSome_some, if_true] at hlk
              clear hli0 rw_ hx hmem e9 hnd
              go_wp2_with (go_at_call 17; refine hli.mono ?_; rintro e w' ⟨rfl, rfl⟩)
              go_round
              case rel => exact ⟨k + 1, by omega, by go_num⟩
              case measure => simp [intOf]; omega
          · have hke : k = ids.length := by omega
            subst hke
            clear hM
            have hnn := nodeOfOps_any u4 d0 aw ops.length e0 cw (ops.map (·.txn)) ids (by simp) g0 hcw (by omega) (by omega)
            go_wp2_with (go_at_call 19; refine hnn.mono ?_; rintro e u5 ⟨aN, cN, rfl, hcN, hb⟩)
            have hB24 := hB23.trans (hb.mono hB23.size)
            replace g1 := g1.below hb
            replace g4 := g4.below hb
            replace hRd := hRd.below hb
            replace hPd := hPd.below hb
            clear hb hcw g0 hB23 hnn
            refine (modelEdges_any u5 d1 d4 aN e1 e4 cN ids ops g1 g4 hcN hlo).mono ?_
            rintro e u6 ⟨v8', v9', rfl, own6, F6, h8, h9⟩
            have hb : Below u5.heap.size u5 u6 := F6.below (Nat.le_refl _) (fun b hb => by simp)
            obtain ⟨a8, k8, rfl, hc8⟩ := h8.form
            obtain ⟨a9, k9, rfl, hc9⟩ := h9.form
            have hB25 := hB24.trans (hb.mono hB24.size)
            replace hRd := hRd.below hb
            replace hPd := hPd.below hb
            have heo := gsAt_eok ids ops ops.length (Nat.le_refl _)
            have hEl := (gsAt_ok ids ops hlo ops.length (Nat.le_refl _)).len
            have hsrc : ∀ p ∈ (gsAt ids ops ops.length).E, p.1 < ids.length ∧ p.2 < ids.length := fun p hp => by
              obtain ⟨a, b⟩ := p
              obtain ⟨h1, i, j, _, _, hi, hj⟩ := heo.edge a b hp
              exact ⟨(Plain.lastIdx_lt _ _ _ hi).1, (Plain.lastIdx_lt _ _ _ hj).1⟩
            clear hb hB24 g1 g4 hcN F6 h8 h9 heo
            generalize (gsAt ids ops ops.length).E = E at *
            have HSRC := (show Hid _ from hsrc); clear hsrc
            simp only [List.length_map]
            have hEl2 : E.length ≤ 20000000 := by omega
            clear hEl
            obtain ⟨iA, hiA, hzA0, hzA1, hzA2⟩ := info_parts Try.info22
            obtain ⟨i0, hi, hz0, hz1, hz2⟩ := info_parts Try.info3
            go_wp2_with (first
              | (at_make; refine wpList_make_full _ rfl (.tmp 166) (.tmp 166) 34 rfl 0 22 iA (.slice none 0 0) 1 Try.underlying34 hiA hzA0 hzA1 .i64 .i64 _ _ ids.length rfl rfl rfl rfl (by rw [hzA2]; omega) (by unfold maxLen; omega) (Nat.zero_le _) ?_; intro w2 hS hgS)
              | (at_make; refine wpList_make_full _ rfl (.tmp 168) (.tmp 168) 34 rfl 0 22 iA (.slice none 0 0) 1 Try.underlying34 hiA hzA0 hzA1 .i64 .i64 _ _ ids.length rfl rfl rfl rfl (by rw [hzA2]; omega) (by unfold maxLen; omega) (Nat.zero_le _) ?_; intro w3 hP hgP))
            have hW0 := mw_start hS hgS hP hgP
            clear hS hgS hP hgP
            generalize u6.heap.size = S2 at *
            generalize w2.heap.size = P2 at *
            go_loopw [36] (fun t wr => ∃ k : Nat, k ≤ E.length ∧ t = .int .i64 k ∧ WInv u6 wr S2 P2 ids.length (E.take k)) (fun t _ => E.length - (intOf t).toNat)
            case atStart => exact ⟨0, Nat.zero_le _, rfl, hW0⟩
            case round =>
              obtain ⟨k, hk, rfl, hW⟩ := hrel
              by_cases hkl : k < E.length
              · obtain ⟨B8, O8, rfl, r8⟩ := hc8 (by simp; omega)
                obtain ⟨B9, O9, rfl, r9⟩ := hc9 (by simp; omega)
                replace r8 := r8 k (by simp; omega)
                replace r9 := r9 k (by simp; omega)
                have e8 : (E.map (fun p => (p.1 : Int))).getD k 0 = ((E.getD k (0, 0)).1 : Int) := getD_map (fun p : Nat × Nat => (p.1 : Int)) E k (0, 0)
                have e9 : (E.map (fun p => (p.2 : Int))).getD k 0 = ((E.getD k (0, 0)).2 : Int) := getD_map (fun p : Nat × Nat => (p.2 : Int)) E k (0, 0)
                rw [e8] at r8
                rw [e9] at r9
                have htk : E.take (k + 1) = E.take k ++ [E.getD k (0, 0)] := by rw [List.take_succ_eq_append_getElem hkl]; simp [List.getD, hkl]
                have hin := HSRC.out (E.getD k (0, 0)) (by simp [List.getD, hkl])
                obtain ⟨⟨x, y⟩, hxy⟩ : ∃ p, E.getD k (0, 0) = p := ⟨_, rfl⟩
                rw [hxy] at r8 r9 htk hin
                obtain ⟨hx, hy⟩ := hin
                simp only at r8 r9 hx hy
                have HTK := (show Hid _ from htk)
                clear e8 e9 htk hxy hc8 hc9
                obtain ⟨own, F, hf, hh⟩ := hW
                have hfl : (Plain.sOf (E.take k) x).length ≤ 20000000 := by have := Plain.sOf_le (E.take k) x; simp at this; omega
                have hhl : (Plain.pOf (E.take k) y).length ≤ 20000000 := by have := Plain.pOf_le (E.take k) y; simp at this; omega
                have HT1 : Hid (upd (Plain.sOf (E.take k)) x (Plain.sOf (E.take k) x ++ [(y : Int)]) = Plain.sOf (E.take (k + 1))) := by rw [HTK.out]; exact upd_sOf _ _ _
                have HT2 : Hid (upd (Plain.pOf (E.take k)) y (Plain.pOf (E.take k) y ++ [(x : Int)]) = Plain.pOf (E.take (k + 1))) := by rw [HTK.out]; exact upd_pOf _ _ _
                have ho8 : own B8 = (0, 0) := F.tags B8 (World.block_lt_of_cell? u6 _ r8)
                have ho9 : own B9 = (0, 0) := F.tags B9 (World.block_lt_of_cell? u6 _ r9)
                replace r8 := F.cell r8 (by simp)
                replace r9 := F.cell r9 (by simp)
                generalize Plain.sOf (E.take k) = f at *
                generalize Plain.pOf (E.take k) = h at *
                obtain ⟨hS, cs, hSh, hcs, hr⟩ := hf
                obtain ⟨v, hv, hrow⟩ := hr x hx
                have hvc : wr.cell? ⟨S2, x, none⟩ = some v := by simp [World.cell?, hSh, hv]
                have ha1 : ∀ o, (wr.alloc o).cell? ⟨S2, x, none⟩ = some v := fun o => (World.cell?_alloc_lt wr o _ (World.block_lt_of_cell? wr _ hvc)).trans hvc
                have ha2 : ∀ o, (wr.alloc o).cell? ⟨B8, O8 + k, none⟩ = some (.int .i64 x) := fun o => (World.cell?_alloc_lt wr o _ (World.block_lt_of_cell? wr _ r8)).trans r8
                go_wp2_with fail
                go_cut [] (fun wc => ∃ own1, Fr (fun t => t = (1, 0) ∨ t.1 = 2 + 0) own own1 wr wc ∧ Rows2 own1 wc 0 S2 ids.length (upd f x (f x ++ [(y : Int)])))
                case first =>
                  have hf2 : Rows2 own wr 0 S2 ids.length f := ⟨hS, cs, hSh, hcs, hr⟩
                  have hneA : B8 ≠ S2 := fun e => by rw [e, hS] at ho8; simp at ho8
                  have hneB : B9 ≠ S2 := fun e => by rw [e, hS] at ho9; simp at ho9
                  refine wp_region_held_drew (S := fun w' => w'.cell? ⟨B8, O8 + k, none⟩ = some (.int .i64 x) ∧ w'.cell? ⟨B9, O9 + k, none⟩ = some (.int .i64 y)) (by kernel_rfl) ⟨r8, r9⟩ (fun hHeld => ?_)
                  refine takeD (i := 0) (some 176) (v := .slice (some ⟨S2, 0, none⟩) ids.length ids.length) rfl rfl (by kernel_rfl) (by kernel_rfl) (by kernel_rfl) (fun _ _ _ h => h) (Or.inl ⟨by rfl, fun w hSw => by (obtain ⟨q1, q2⟩ := hSw; go_simp)⟩) hHeld ?_
                  simp only [Act.put, List.setIfInBounds_toArray, List.set_cons_zero, List.set_cons_succ]
                  refine takeD (i := 1) (some 177) (v := .slice (some ⟨B8, O8, none⟩) E.length k8) rfl rfl (by kernel_rfl) (by kernel_rfl) (by kernel_rfl) (fun _ _ _ h => h) (Or.inl ⟨by rfl, fun w hSw => by (obtain ⟨q1, q2⟩ := hSw; go_simp)⟩) hHeld ?_
                  simp only [Act.put, List.setIfInBounds_toArray, List.set_cons_zero, List.set_cons_succ]
                  refine takeD (i := 2) (some 178) (v := .int .i64 k) rfl rfl (by kernel_rfl) (by kernel_rfl) (by kernel_rfl) (fun _ _ _ h => h) (Or.inl ⟨by rfl, fun w hSw => by (obtain ⟨q1, q2⟩ := hSw; go_simp)⟩) hHeld ?_
                  simp only [Act.put, List.setIfInBounds_toArray, List.set_cons_zero, List.set_cons_succ]
                  refine takeD (i := 3) (some 179) (v := .pointer (some ⟨B8, O8 + k, none⟩)) rfl rfl (by kernel_rfl) (by kernel_rfl) (by kernel_rfl) (fun _ _ _ h => h) (Or.inl ⟨by rfl, fun w hSw => by (obtain ⟨q1, q2⟩ := hSw; go_simp)⟩) hHeld ?_
                  simp only [Act.put, List.setIfInBounds_toArray, List.set_cons_zero, List.set_cons_succ]
                  refine takeD (i := 4) (some 180) (v := .int .i64 x) rfl rfl (by kernel_rfl) (by kernel_rfl) (by kernel_rfl) (fun _ _ _ h => h) (Or.inl ⟨by rfl, fun w hSw => by (obtain ⟨q1, q2⟩ := hSw; go_simp)⟩) hHeld ?_
                  simp only [Act.put, List.setIfInBounds_toArray, List.set_cons_zero, List.set_cons_succ]
                  refine takeD (i := 5) (some 181) (v := .slice (some ⟨S2, 0, none⟩) ids.length ids.length) rfl rfl (by kernel_rfl) (by kernel_rfl) (by kernel_rfl) (fun _ _ _ h => h) (Or.inl ⟨by rfl, fun w hSw => by (obtain ⟨q1, q2⟩ := hSw; go_simp)⟩) hHeld ?_
                  simp only [Act.put, List.setIfInBounds_toArray, List.set_cons_zero, List.set_cons_succ]
                  refine takeD (i := 6) (some 182) (v := .slice (some ⟨B8, O8, none⟩) E.length k8) rfl rfl (by kernel_rfl) (by kernel_rfl) (by kernel_rfl) (fun _ _ _ h => h) (Or.inl ⟨by rfl, fun w hSw => by (obtain ⟨q1, q2⟩ := hSw; go_simp)⟩) hHeld ?_
                  simp only [Act.put, List.setIfInBounds_toArray, List.set_cons_zero, List.set_cons_succ]
                  refine takeD (i := 7) (some 183) (v := .int .i64 k) rfl rfl (by kernel_rfl) (by kernel_rfl) (by kernel_rfl) (fun _ _ _ h => h) (Or.inl ⟨by rfl, fun w hSw => by (obtain ⟨q1, q2⟩ := hSw; go_simp)⟩) hHeld ?_
                  simp only [Act.put, List.setIfInBounds_toArray, List.set_cons_zero, List.set_cons_succ]
                  refine takeD (i := 8) (some 184) (v := .pointer (some ⟨B8, O8 + k, none⟩)) rfl rfl (by kernel_rfl) (by kernel_rfl) (by kernel_rfl) (fun _ _ _ h => h) (Or.inl ⟨by rfl, fun w hSw => by (obtain ⟨q1, q2⟩ := hSw; go_simp)⟩) hHeld ?_
                  simp only [Act.put, List.setIfInBounds_toArray, List.set_cons_zero, List.set_cons_succ]
                  refine takeD (i := 9) (some 185) (v := .int .i64 x) rfl rfl (by kernel_rfl) (by kernel_rfl) (by kernel_rfl) (fun _ _ _ h => h) (Or.inl ⟨by rfl, fun w hSw => by (obtain ⟨q1, q2⟩ := hSw; go_simp)⟩) hHeld ?_
                  simp only [Act.put, List.setIfInBounds_toArray, List.set_cons_zero, List.set_cons_succ]
                  refine takeD (i := 10) (some 186) (v := .pointer (some ⟨S2, x, none⟩)) rfl rfl (by kernel_rfl) (by kernel_rfl) (by kernel_rfl) (fun _ _ _ h => h) (Or.inl ⟨by rfl, fun w hSw => by (obtain ⟨q1, q2⟩ := hSw; go_simp)⟩) hHeld ?_
                  simp only [Act.put, List.setIfInBounds_toArray, List.set_cons_zero, List.set_cons_succ]
                  refine takeD (i := 12) (some 188) (v := .slice (some ⟨B9, O9, none⟩) E.length k9) rfl rfl (by kernel_rfl) (by kernel_rfl) (by kernel_rfl) (fun _ _ _ h => h) (Or.inl ⟨by rfl, fun w hSw => by (obtain ⟨q1, q2⟩ := hSw; go_simp)⟩) hHeld ?_
                  simp only [Act.put, List.setIfInBounds_toArray, List.set_cons_zero, List.set_cons_succ]
                  refine takeD (i := 13) (some 189) (v := .int .i64 k) rfl rfl (by kernel_rfl) (by kernel_rfl) (by kernel_rfl) (fun _ _ _ h => h) (Or.inl ⟨by rfl, fun w hSw => by (obtain ⟨q1, q2⟩ := hSw; go_simp)⟩) hHeld ?_
                  simp only [Act.put, List.setIfInBounds_toArray, List.set_cons_zero, List.set_cons_succ]
                  refine takeD (i := 14) (some 190) (v := .pointer (some ⟨B9, O9 + k, none⟩)) rfl rfl (by kernel_rfl) (by kernel_rfl) (by kernel_rfl) (fun _ _ _ h => h) (Or.inl ⟨by rfl, fun w hSw => by (obtain ⟨q1, q2⟩ := hSw; go_simp)⟩) hHeld ?_
                  simp only [Act.put, List.setIfInBounds_toArray, List.set_cons_zero, List.set_cons_succ]
                  refine takeD (i := 15) (some 191) (v := .int .i64 y) rfl rfl (by kernel_rfl) (by kernel_rfl) (by kernel_rfl) (fun _ _ _ h => h) (Or.inl ⟨by rfl, fun w hSw => by (obtain ⟨q1, q2⟩ := hSw; go_simp)⟩) hHeld ?_
                  simp only [Act.put, List.setIfInBounds_toArray, List.set_cons_zero, List.set_cons_succ]
                  refine wpAnyH_ready (rs := [11, 16]) (by kernel_rfl) (by simp) ?_
                  refine AllReadyH.cons rfl (fun K hK => ?_) (AllReadyH.cons rfl (fun K hK => ?_) AllReadyH.nil)
                  · go_simp
                    refine hK.out _ _ hHeld (fun hHeld => ?_)
                    clear hK K
                    refine wpAnyH_ready (rs := [16]) (by kernel_rfl) (by simp) ?_
                    refine AllReadyH.cons rfl (fun K hK => ?_) AllReadyH.nil
                    go_simp
                    refine hK.out _ _ ⟨by simp [*, World.cell?_alloc_some], by simp [*, World.cell?_alloc_some]⟩ (fun hHeld => ?_)
                    clear hK K
                    refine wpAnyH_ready (rs := [17]) (by kernel_rfl) (by simp) ?_
                    refine AllReadyH.cons rfl (fun K hK => ?_) AllReadyH.nil
                    refine step_append_lies _ rfl _ _ 22 rfl 0 3 i0 (.int .i64 0) 1 8 Try.underlying22 hi hz0 hz1 hz2 rfl (by decide) v (f x).length ((f x).map (Value.int .i64)) rfl (by exact hrow.1.alloc _) ⟨wr.heap.size, 0, none⟩ 1 1 [.int .i64 (y : Int)] rfl rfl (by exact cell_one_new _ _ _) (ints_oneCell .i64 [(y : Int)]) (by decide) (by unfold maxLen; omega) (by omega) (Nat.zero_le _) (wr.heap.size + 1) (by simp) ?_
                    intro g cap w1 hown hgrow hat hlt
                    have hst1 : w1.cell? ⟨S2, x, none⟩ = some v := mid_cell hSh hv hS hrow hgrow
                    have hst2 : w1.frozen? ⟨S2, x, none⟩ = false := mid_free hSh hS hrow hgrow
                    have hst3 : w1.cell? ⟨B8, O8 + k, none⟩ = some (.int .i64 x) := mid_far r8 ho8 hrow hgrow
                    have hst4 : w1.cell? ⟨B9, O9 + k, none⟩ = some (.int .i64 y) := mid_far r9 ho9 hrow hgrow
                    refine hK.out _ _ ⟨hst3, hst4⟩ (fun hHeld => ?_)
                    clear hK K
                    refine takeD (i := 18) (some 194) (v := .pointer (some ⟨S2, x, none⟩)) rfl rfl (by kernel_rfl) (by kernel_rfl) (by kernel_rfl) (fun _ _ _ h => h) (Or.inl ⟨by rfl, fun w hSw => by (obtain ⟨q1, q2⟩ := hSw; go_simp)⟩) hHeld ?_
                    simp only [Act.put, List.setIfInBounds_toArray, List.set_cons_zero, List.set_cons_succ]
                    refine wpAnyH_ready (rs := [19]) (by kernel_rfl) (by simp) ?_
                    refine AllReadyH.cons rfl (fun K hK => ?_) AllReadyH.nil
                    go_simp
                    refine hK.out _ _ ⟨(World.cell?_setCell_far _ ⟨S2, x, none⟩ ⟨B8, O8 + k, none⟩ _ (Ne.symm hneA)).trans hst3, (World.cell?_setCell_far _ ⟨S2, x, none⟩ ⟨B9, O9 + k, none⟩ _ (Ne.symm hneB)).trans hst4⟩ (fun hHeld => ?_)
                    clear hK K
                    refine wpAnyH_done (by kernel_rfl) ?_ _
                    go_wp2_with fail
                    go_meet
                    exact hf2.push hx hvc ((Fr.refl _ _ _).alloc0 _).drew (by exact hown) (by exact hgrow) (by simpa using hat)
                  · go_simp
                    refine hK.out _ _ ⟨by simp [*, World.cell?_alloc_some], by simp [*, World.cell?_alloc_some]⟩ (fun hHeld => ?_)
                    clear hK K
                    refine wpAnyH_ready (rs := [11]) (by kernel_rfl) (by simp) ?_
                    refine AllReadyH.cons rfl (fun K hK => ?_) AllReadyH.nil
                    go_simp
                    refine hK.out _ _ hHeld (fun hHeld => ?_)
                    clear hK K
                    refine wpAnyH_ready (rs := [17]) (by kernel_rfl) (by simp) ?_
                    refine AllReadyH.cons rfl (fun K hK => ?_) AllReadyH.nil
                    refine step_append_lies _ rfl _ _ 22 rfl 0 3 i0 (.int .i64 0) 1 8 Try.underlying22 hi hz0 hz1 hz2 rfl (by decide) v (f x).length ((f x).map (Value.int .i64)) rfl (by exact hrow.1.alloc _) ⟨wr.heap.size, 0, none⟩ 1 1 [.int .i64 (y : Int)] rfl rfl (by exact cell_one_new _ _ _) (ints_oneCell .i64 [(y : Int)]) (by decide) (by unfold maxLen; omega) (by omega) (Nat.zero_le _) (wr.heap.size + 1) (by simp) ?_
                    intro g cap w1 hown hgrow hat hlt
                    have hst1 : w1.cell? ⟨S2, x, none⟩ = some v := mid_cell hSh hv hS hrow hgrow
                    have hst2 : w1.frozen? ⟨S2, x, none⟩ = false := mid_free hSh hS hrow hgrow
                    have hst3 : w1.cell? ⟨B8, O8 + k, none⟩ = some (.int .i64 x) := mid_far r8 ho8 hrow hgrow
                    have hst4 : w1.cell? ⟨B9, O9 + k, none⟩ = some (.int .i64 y) := mid_far r9 ho9 hrow hgrow
                    refine hK.out _ _ ⟨hst3, hst4⟩ (fun hHeld => ?_)
                    clear hK K
                    refine takeD (i := 18) (some 194) (v := .pointer (some ⟨S2, x, none⟩)) rfl rfl (by kernel_rfl) (by kernel_rfl) (by kernel_rfl) (fun _ _ _ h => h) (Or.inl ⟨by rfl, fun w hSw => by (obtain ⟨q1, q2⟩ := hSw; go_simp)⟩) hHeld ?_
                    simp only [Act.put, List.setIfInBounds_toArray, List.set_cons_zero, List.set_cons_succ]
                    refine wpAnyH_ready (rs := [19]) (by kernel_rfl) (by simp) ?_
                    refine AllReadyH.cons rfl (fun K hK => ?_) AllReadyH.nil
                    go_simp
                    refine hK.out _ _ ⟨(World.cell?_setCell_far _ ⟨S2, x, none⟩ ⟨B8, O8 + k, none⟩ _ (Ne.symm hneA)).trans hst3, (World.cell?_setCell_far _ ⟨S2, x, none⟩ ⟨B9, O9 + k, none⟩ _ (Ne.symm hneB)).trans hst4⟩ (fun hHeld => ?_)
                    clear hK K
                    refine wpAnyH_done (by kernel_rfl) ?_ _
                    go_wp2_with fail
                    go_meet
                    exact hf2.push hx hvc ((Fr.refl _ _ _).alloc0 _).drew (by exact hown) (by exact hgrow) (by simpa using hat)
                case rest =>
                  obtain ⟨own1, F1, R1⟩ := hcut
                  have hh1 : Rows2 own1 wc 1 P2 ids.length h := hh.fr F1 (by simp) (by simp)
                  have r8' : wc.cell? ⟨B8, O8 + k, none⟩ = some (.int .i64 x) := F1.cell r8 (by rw [ho8]; simp)
                  have r9' : wc.cell? ⟨B9, O9 + k, none⟩ = some (.int .i64 y) := F1.cell r9 (by rw [ho9]; simp)
                  have ho9' : own1 B9 = (0, 0) := by rw [F1.tags B9 (World.block_lt_of_cell? wr _ r9), ho9]
                  have HO8 : Hid (own1 B8 = (0, 0)) := by rw [F1.tags B8 (World.block_lt_of_cell? wr _ r8), ho8]; exact rfl
                  rw [HT1.out] at R1
                  clear hr hrow hv hvc ha1 ha2 hSh hS hcs hh r8 r9
                  have hh2 := hh1
                  obtain ⟨hP, ps, hPh, hps, hrp⟩ := hh1
                  obtain ⟨u, hu, hrowu⟩ := hrp y hy
                  have huc : wc.cell? ⟨P2, y, none⟩ = some u := by simp [World.cell?, hPh, hu]
                  have hb1 : ∀ o, (wc.alloc o).cell? ⟨P2, y, none⟩ = some u := fun o => (World.cell?_alloc_lt wc o _ (World.block_lt_of_cell? wc _ huc)).trans huc
                  have hb2 : ∀ o, (wc.alloc o).cell? ⟨B9, O9 + k, none⟩ = some (.int .i64 y) := fun o => (World.cell?_alloc_lt wc o _ (World.block_lt_of_cell? wc _ r9')).trans r9'
                  go_upto_region 38 with fail
                  have ho8' : own1 B8 = (0, 0) := HO8.out
                  have hneA : B9 ≠ P2 := fun e => by rw [e, hP] at ho9'; simp at ho9'
                  have hneB : B8 ≠ P2 := fun e => by rw [e, hP] at ho8'; simp at ho8'
                  refine wp_region_held_drew (S := fun w' => w'.cell? ⟨B9, O9 + k, none⟩ = some (.int .i64 y) ∧ w'.cell? ⟨B8, O8 + k, none⟩ = some (.int .i64 x)) (by kernel_rfl) ⟨r9', r8'⟩ (fun hHeld => ?_)
                  refine takeD (i := 0) (some 195) (v := .slice (some ⟨P2, 0, none⟩) ids.length ids.length) rfl rfl (by kernel_rfl) (by kernel_rfl) (by kernel_rfl) (fun _ _ _ h => h) (Or.inl ⟨by rfl, fun w hSw => by (obtain ⟨q1, q2⟩ := hSw; go_simp)⟩) hHeld ?_
                  simp only [Act.put, List.setIfInBounds_toArray, List.set_cons_zero, List.set_cons_succ]
                  refine takeD (i := 1) (some 196) (v := .slice (some ⟨B9, O9, none⟩) E.length k9) rfl rfl (by kernel_rfl) (by kernel_rfl) (by kernel_rfl) (fun _ _ _ h => h) (Or.inl ⟨by rfl, fun w hSw => by (obtain ⟨q1, q2⟩ := hSw; go_simp)⟩) hHeld ?_
                  simp only [Act.put, List.setIfInBounds_toArray, List.set_cons_zero, List.set_cons_succ]
                  refine takeD (i := 2) (some 197) (v := .int .i64 k) rfl rfl (by kernel_rfl) (by kernel_rfl) (by kernel_rfl) (fun _ _ _ h => h) (Or.inl ⟨by rfl, fun w hSw => by (obtain ⟨q1, q2⟩ := hSw; go_simp)⟩) hHeld ?_
                  simp only [Act.put, List.setIfInBounds_toArray, List.set_cons_zero, List.set_cons_succ]
                  refine takeD (i := 3) (some 198) (v := .pointer (some ⟨B9, O9 + k, none⟩)) rfl rfl (by kernel_rfl) (by kernel_rfl) (by kernel_rfl) (fun _ _ _ h => h) (Or.inl ⟨by rfl, fun w hSw => by (obtain ⟨q1, q2⟩ := hSw; go_simp)⟩) hHeld ?_
                  simp only [Act.put, List.setIfInBounds_toArray, List.set_cons_zero, List.set_cons_succ]
                  refine takeD (i := 4) (some 199) (v := .int .i64 y) rfl rfl (by kernel_rfl) (by kernel_rfl) (by kernel_rfl) (fun _ _ _ h => h) (Or.inl ⟨by rfl, fun w hSw => by (obtain ⟨q1, q2⟩ := hSw; go_simp)⟩) hHeld ?_
                  simp only [Act.put, List.setIfInBounds_toArray, List.set_cons_zero, List.set_cons_succ]
                  refine takeD (i := 5) (some 200) (v := .slice (some ⟨P2, 0, none⟩) ids.length ids.length) rfl rfl (by kernel_rfl) (by kernel_rfl) (by kernel_rfl) (fun _ _ _ h => h) (Or.inl ⟨by rfl, fun w hSw => by (obtain ⟨q1, q2⟩ := hSw; go_simp)⟩) hHeld ?_
                  simp only [Act.put, List.setIfInBounds_toArray, List.set_cons_zero, List.set_cons_succ]
                  refine takeD (i := 6) (some 201) (v := .slice (some ⟨B9, O9, none⟩) E.length k9) rfl rfl (by kernel_rfl) (by kernel_rfl) (by kernel_rfl) (fun _ _ _ h => h) (Or.inl ⟨by rfl, fun w hSw => by (obtain ⟨q1, q2⟩ := hSw; go_simp)⟩) hHeld ?_
                  simp only [Act.put, List.setIfInBounds_toArray, List.set_cons_zero, List.set_cons_succ]
                  refine takeD (i := 7) (some 202) (v := .int .i64 k) rfl rfl (by kernel_rfl) (by kernel_rfl) (by kernel_rfl) (fun _ _ _ h => h) (Or.inl ⟨by rfl, fun w hSw => by (obtain ⟨q1, q2⟩ := hSw; go_simp)⟩) hHeld ?_
                  simp only [Act.put, List.setIfInBounds_toArray, List.set_cons_zero, List.set_cons_succ]
                  refine takeD (i := 8) (some 203) (v := .pointer (some ⟨B9, O9 + k, none⟩)) rfl rfl (by kernel_rfl) (by kernel_rfl) (by kernel_rfl) (fun _ _ _ h => h) (Or.inl ⟨by rfl, fun w hSw => by (obtain ⟨q1, q2⟩ := hSw; go_simp)⟩) hHeld ?_
                  simp only [Act.put, List.setIfInBounds_toArray, List.set_cons_zero, List.set_cons_succ]
                  refine takeD (i := 9) (some 204) (v := .int .i64 y) rfl rfl (by kernel_rfl) (by kernel_rfl) (by kernel_rfl) (fun _ _ _ h => h) (Or.inl ⟨by rfl, fun w hSw => by (obtain ⟨q1, q2⟩ := hSw; go_simp)⟩) hHeld ?_
                  simp only [Act.put, List.setIfInBounds_toArray, List.set_cons_zero, List.set_cons_succ]
                  refine takeD (i := 10) (some 205) (v := .pointer (some ⟨P2, y, none⟩)) rfl rfl (by kernel_rfl) (by kernel_rfl) (by kernel_rfl) (fun _ _ _ h => h) (Or.inl ⟨by rfl, fun w hSw => by (obtain ⟨q1, q2⟩ := hSw; go_simp)⟩) hHeld ?_
                  simp only [Act.put, List.setIfInBounds_toArray, List.set_cons_zero, List.set_cons_succ]
                  refine takeD (i := 12) (some 207) (v := .slice (some ⟨B8, O8, none⟩) E.length k8) rfl rfl (by kernel_rfl) (by kernel_rfl) (by kernel_rfl) (fun _ _ _ h => h) (Or.inl ⟨by rfl, fun w hSw => by (obtain ⟨q1, q2⟩ := hSw; go_simp)⟩) hHeld ?_
                  simp only [Act.put, List.setIfInBounds_toArray, List.set_cons_zero, List.set_cons_succ]
                  refine takeD (i := 13) (some 208) (v := .int .i64 k) rfl rfl (by kernel_rfl) (by kernel_rfl) (by kernel_rfl) (fun _ _ _ h => h) (Or.inl ⟨by rfl, fun w hSw => by (obtain ⟨q1, q2⟩ := hSw; go_simp)⟩) hHeld ?_
                  simp only [Act.put, List.setIfInBounds_toArray, List.set_cons_zero, List.set_cons_succ]
                  refine takeD (i := 14) (some 209) (v := .pointer (some ⟨B8, O8 + k, none⟩)) rfl rfl (by kernel_rfl) (by kernel_rfl) (by kernel_rfl) (fun _ _ _ h => h) (Or.inl ⟨by rfl, fun w hSw => by (obtain ⟨q1, q2⟩ := hSw; go_simp)⟩) hHeld ?_
                  simp only [Act.put, List.setIfInBounds_toArray, List.set_cons_zero, List.set_cons_succ]
                  refine takeD (i := 15) (some 210) (v := .int .i64 x) rfl rfl (by kernel_rfl) (by kernel_rfl) (by kernel_rfl) (fun _ _ _ h => h) (Or.inl ⟨by rfl, fun w hSw => by (obtain ⟨q1, q2⟩ := hSw; go_simp)⟩) hHeld ?_
                  simp only [Act.put, List.setIfInBounds_toArray, List.set_cons_zero, List.set_cons_succ]
                  refine wpAnyH_ready (rs := [11, 16]) (by kernel_rfl) (by simp) ?_
                  refine AllReadyH.cons rfl (fun K hK => ?_) (AllReadyH.cons rfl (fun K hK => ?_) AllReadyH.nil)
                  · go_simp
                    refine hK.out _ _ hHeld (fun hHeld => ?_)
                    clear hK K
                    refine wpAnyH_ready (rs := [16]) (by kernel_rfl) (by simp) ?_
                    refine AllReadyH.cons rfl (fun K hK => ?_) AllReadyH.nil
                    go_simp
                    refine hK.out _ _ ⟨by simp [*, World.cell?_alloc_some], by simp [*, World.cell?_alloc_some]⟩ (fun hHeld => ?_)
                    clear hK K
                    refine wpAnyH_ready (rs := [17]) (by kernel_rfl) (by simp) ?_
                    refine AllReadyH.cons rfl (fun K hK => ?_) AllReadyH.nil
                    refine step_append_lies _ rfl _ _ 22 rfl 0 3 i0 (.int .i64 0) 1 8 Try.underlying22 hi hz0 hz1 hz2 rfl (by decide) u (h y).length ((h y).map (Value.int .i64)) rfl (by exact hrowu.1.alloc _) ⟨wc.heap.size, 0, none⟩ 1 1 [.int .i64 (x : Int)] rfl rfl (by exact cell_one_new _ _ _) (ints_oneCell .i64 [(x : Int)]) (by decide) (by unfold maxLen; omega) (by omega) (Nat.zero_le _) (wc.heap.size + 1) (by simp) ?_
                    intro g cap w1 hown hgrow hat hlt
                    have hst1 : w1.cell? ⟨P2, y, none⟩ = some u := mid_cell hPh hu hP hrowu hgrow
                    have hst2 : w1.frozen? ⟨P2, y, none⟩ = false := mid_free hPh hP hrowu hgrow
                    have hst3 : w1.cell? ⟨B9, O9 + k, none⟩ = some (.int .i64 y) := mid_far r9' ho9' hrowu hgrow
                    have hst4 : w1.cell? ⟨B8, O8 + k, none⟩ = some (.int .i64 x) := mid_far r8' ho8' hrowu hgrow
                    refine hK.out _ _ ⟨hst3, hst4⟩ (fun hHeld => ?_)
                    clear hK K
                    refine takeD (i := 18) (some 213) (v := .pointer (some ⟨P2, y, none⟩)) rfl rfl (by kernel_rfl) (by kernel_rfl) (by kernel_rfl) (fun _ _ _ h => h) (Or.inl ⟨by rfl, fun w hSw => by (obtain ⟨q1, q2⟩ := hSw; go_simp)⟩) hHeld ?_
                    simp only [Act.put, List.setIfInBounds_toArray, List.set_cons_zero, List.set_cons_succ]
                    refine wpAnyH_ready (rs := [19]) (by kernel_rfl) (by simp) ?_
                    refine AllReadyH.cons rfl (fun K hK => ?_) AllReadyH.nil
                    go_simp
                    refine hK.out _ _ ⟨(World.cell?_setCell_far _ ⟨P2, y, none⟩ ⟨B9, O9 + k, none⟩ _ (Ne.symm hneA)).trans hst3, (World.cell?_setCell_far _ ⟨P2, y, none⟩ ⟨B8, O8 + k, none⟩ _ (Ne.symm hneB)).trans hst4⟩ (fun hHeld => ?_)
                    clear hK K
                    refine wpAnyH_done (by kernel_rfl) ?_ _
                    go_wp2_with fail
                    obtain ⟨own2, F2, R2⟩ := hh2.push hy huc ((Fr.refl _ _ _).alloc0 _).drew (by exact hown) (by exact hgrow) (by simpa using hat)
                    rw [HT2.out] at R2
                    have hW2 := (⟨own2, F.trans ((F1.mono (fun t ht => by rcases ht with rfl | h; exact .inl rfl; exact .inr (.inl h))).trans (F2.mono (fun t ht => by rcases ht with rfl | h; exact .inl rfl; exact .inr (.inr h)))), R1.fr F2 (by simp) (by simp), R2⟩ : WInv u6 _ S2 P2 ids.length (E.take (k + 1)))
                    go_roundw
                    case rel => exact ⟨k + 1, by omega, by go_num, hW2⟩
                    case measure => simp [intOf]; omega
                  · go_simp
                    refine hK.out _ _ ⟨by simp [*, World.cell?_alloc_some], by simp [*, World.cell?_alloc_some]⟩ (fun hHeld => ?_)
                    clear hK K
                    refine wpAnyH_ready (rs := [11]) (by kernel_rfl) (by simp) ?_
                    refine AllReadyH.cons rfl (fun K hK => ?_) AllReadyH.nil
                    go_simp
                    refine hK.out _ _ hHeld (fun hHeld => ?_)
                    clear hK K
                    refine wpAnyH_ready (rs := [17]) (by kernel_rfl) (by simp) ?_
                    refine AllReadyH.cons rfl (fun K hK => ?_) AllReadyH.nil
                    refine step_append_lies _ rfl _ _ 22 rfl 0 3 i0 (.int .i64 0) 1 8 Try.underlying22 hi hz0 hz1 hz2 rfl (by decide) u (h y).length ((h y).map (Value.int .i64)) rfl (by exact hrowu.1.alloc _) ⟨wc.heap.size, 0, none⟩ 1 1 [.int .i64 (x : Int)] rfl rfl (by exact cell_one_new _ _ _) (ints_oneCell .i64 [(x : Int)]) (by decide) (by unfold maxLen; omega) (by omega) (Nat.zero_le _) (wc.heap.size + 1) (by simp) ?_
                    intro g cap w1 hown hgrow hat hlt
                    have hst1 : w1.cell? ⟨P2, y, none⟩ = some u := mid_cell hPh hu hP hrowu hgrow
                    have hst2 : w1.frozen? ⟨P2, y, none⟩ = false := mid_free hPh hP hrowu hgrow
                    have hst3 : w1.cell? ⟨B9, O9 + k, none⟩ = some (.int .i64 y) := mid_far r9' ho9' hrowu hgrow
                    have hst4 : w1.cell? ⟨B8, O8 + k, none⟩ = some (.int .i64 x) := mid_far r8' ho8' hrowu hgrow
                    refine hK.out _ _ ⟨hst3, hst4⟩ (fun hHeld => ?_)
                    clear hK K
                    refine takeD (i := 18) (some 213) (v := .pointer (some ⟨P2, y, none⟩)) rfl rfl (by kernel_rfl) (by kernel_rfl) (by kernel_rfl) (fun _ _ _ h => h) (Or.inl ⟨by rfl, fun w hSw => by (obtain ⟨q1, q2⟩ := hSw; go_simp)⟩) hHeld ?_
                    simp only [Act.put, List.setIfInBounds_toArray, List.set_cons_zero, List.set_cons_succ]
                    refine wpAnyH_ready (rs := [19]) (by kernel_rfl) (by simp) ?_
                    refine AllReadyH.cons rfl (fun K hK => ?_) AllReadyH.nil
                    go_simp
                    refine hK.out _ _ ⟨(World.cell?_setCell_far _ ⟨P2, y, none⟩ ⟨B9, O9 + k, none⟩ _ (Ne.symm hneA)).trans hst3, (World.cell?_setCell_far _ ⟨P2, y, none⟩ ⟨B8, O8 + k, none⟩ _ (Ne.symm hneB)).trans hst4⟩ (fun hHeld => ?_)
                    clear hK K
                    refine wpAnyH_done (by kernel_rfl) ?_ _
                    go_wp2_with fail
                    obtain ⟨own2, F2, R2⟩ := hh2.push hy huc ((Fr.refl _ _ _).alloc0 _).drew (by exact hown) (by exact hgrow) (by simpa using hat)
                    rw [HT2.out] at R2
                    have hW2 := (⟨own2, F.trans ((F1.mono (fun t ht => by rcases ht with rfl | h; exact .inl rfl; exact .inr (.inl h))).trans (F2.mono (fun t ht => by rcases ht with rfl | h; exact .inl rfl; exact .inr (.inr h)))), R1.fr F2 (by simp) (by simp), R2⟩ : WInv u6 _ S2 P2 ids.length (E.take (k + 1)))
                    go_roundw
                    case rel => exact ⟨k + 1, by omega, by go_num, hW2⟩
                    case measure => simp [intOf]; omega
              · have hke : E.take k = E := List.take_of_length_le (by omega)
                rw [hke] at hW
                obtain ⟨own, F, hf, hh⟩ := hW
                have hbw : Below u6.heap.size u6 wr := F.below (Nat.le_refl _) (fun b hb => by simp)
                have hB26 := hB25.trans (hbw.mono hB25.size)
                replace hRd := hRd.below hbw
                replace hPd := hPd.below hbw
                have hRw := hf.rd
                have hPw := hh.rd
                clear hbw hc8 hc9 hf hh F hW0 hke
                go_wp2_with fail
                go_loopw [22, 37] (fun _ t wx => ∃ x : Nat, x ≤ ids.length ∧ t = .int .i64 x ∧ ∃ m, wx = wr.drewN m) (fun _ t _ => ids.length - (intOf t).toNat)
                case atStart => exact ⟨0, Nat.zero_le _, rfl, 0, rfl⟩
                case round =>
                  obtain ⟨x, hx, rfl, m, rfl⟩ := hrel
                  have hRd' : RowsRd (wr.drewN m) S ids.length (Plain.sOf E) := hRd
                  have hPd' : RowsRd (wr.drewN m) Pd ids.length (Plain.pOf E) := hPd
                  have hRw' : RowsRd (wr.drewN m) S2 ids.length (Plain.sOf E) := hRw
                  have hPw' : RowsRd (wr.drewN m) P2 ids.length (Plain.pOf E) := hPw
                  have hB27 : Below w.heap.size w (wr.drewN m) := below_drewN hB26 _
                  have hmm : Hid (∀ q, ∃ m', (wr.drewN m).drewN q = wr.drewN m') := fun q => ⟨m + q, by simp⟩
                  clear hRd hPd hRw hPw hB26
                  generalize wr.drewN m = W at *
                  by_cases hxl : x < ids.length
                  · obtain ⟨aX, cX, hcX, hcellX⟩ := hRd' x hxl
                    obtain ⟨aY, cY, hcY, hcellY⟩ := hRw' x hxl
                    obtain ⟨aP, cP, hcP, hcellP⟩ := hPd' x hxl
                    obtain ⟨aQ, cQ, hcQ, hcellQ⟩ := hPw' x hxl
                    have hq1 := fun nq => equalInts_same (W.drewN nq) aX aY cX cY (Plain.sOf E x) (by exact hcellX) (by exact hcellY) (by have := Plain.sOf_le E x; omega)
                    have hq2 := fun nq => equalInts_same (W.drewN nq) aP aQ cP cQ (Plain.pOf E x) (by exact hcellP) (by exact hcellQ) (by have := Plain.pOf_le E x; omega)
                    have H1 := (show Hid _ from hq1); have H2 := (show Hid _ from hq2)
                    clear hq1 hq2 hcellX hcellY hcellP hcellQ
                    go_wp2_with fail
                    go_quiet (first | (go_at_call_of 15 cX; exact Calls.quiet_of (H1.out _)) | (go_at_call_of 15 cP; exact Calls.quiet_of (H2.out _)))
                    go_wp2_with fail
                    go_roundw
                    case rel => exact ⟨x + 1, by omega, by go_num, hmm.out nq⟩
                    case measure => simp [intOf]; omega
                  · go_wp2_with fail
                    go_ret
                    exact ⟨rfl, hB27⟩

/-- The law's walk, at whatever slices. -/
theorem matches_walk (w : World) (a0 a1 a2 a3 a4 a5 a6 a7 a10 : Option Addr) (c0 c1 c2 c3 c4 c5 c6 c7 c10 : Nat) (b8 b9 : Bool) (z0 : List Int) (s1 s2 : List ByteArray) (z3 z4 : List Int) (p5 : List Bool) (z6 z7 z10 : List Int)
    (h0 : CellsAt (Value.int .i64) 0 w a0 z0) (h1 : CellsAt Value.string ByteArray.empty w a1 s1) (h2 : CellsAt Value.string ByteArray.empty w a2 s2) (h3 : CellsAt (Value.int .i64) 0 w a3 z3)
    (h4 : CellsAt (Value.int .u8) 0 w a4 z4) (h5 : CellsAt Value.bool false w a5 p5) (h6 : CellsAt (Value.int .i64) 0 w a6 z6) (h7 : CellsAt (Value.int .u8) 0 w a7 z7) (h10 : CellsAt (Value.int .i64) 0 w a10 z10) :
    Calls Try.prog 3 #[.slice a0 z0.length c0, .slice a1 s1.length c1, .slice a2 s2.length c2, .slice a3 z3.length c3, .slice a4 z4.length c4, .slice a5 p5.length c5, .slice a6 z6.length c6, .slice a7 z7.length c7, .bool b8, .bool b9, .slice a10 z10.length c10] w
      fun e w' => e = .returned (.bool true) ∧ Below w.heap.size w w' := by
  by_cases hs : s1.length = z0.length ∧ s2.length = z0.length ∧ z3.length = z0.length ∧ z4.length = z0.length ∧ p5.length = z0.length ∧ z7.length = z6.length
  · obtain ⟨q1, q2, q3, q4, q5, q7⟩ := hs
    obtain ⟨ops, rfl, rfl, rfl, rfl, rfl, rfl⟩ := ops_of z0 s1 s2 z3 z4 p5 q1 q2 q3 q4 q5
    obtain ⟨ts, rfl, rfl⟩ := txns_of z6 z7 q7
    have := matches_same w a0 a1 a2 a3 a4 a5 a6 a7 a10 c0 c1 c2 c3 c4 c5 c6 c7 c10 b8 b9 ops ts z10 h0 h1 h2 h3 h4 h5 h6 h7 h10
    simp only [List.length_map]
    exact this
  · exact matches_other w a0 a1 a2 a3 a4 a5 a6 a7 a10 _ _ _ _ _ _ _ c0 c1 c2 c3 c4 c5 c6 c7 c10 b8 b9 s1 s2 h1 h2 hs

end Go.Proofs.Qxb6602416a
