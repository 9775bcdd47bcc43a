import Derived.Test.Qxb6603985aDoorPlain
import Derived.Deep.RegionWith
import Derived.Deep.DeepCutAuto
import Derived.Deep.CutBlock
import Derived.Lib.SmallJoins
namespace Go.Proofs.Qxb6603985aDoor
open Go.RowKit
set_option linter.unusedVariables false

theorem bAt_below {T e : TypeId} {B b : Nat} {p : Value} {bs : List Value} {W W' : World} (h : Lib.BuilderAtF T e B b p bs W) (hb : Below W.heap.size W W') : Lib.BuilderAtF T e B b p bs W' := by
  have hlt := h.lt
  obtain ⟨hB, v, hv, hown, hne⟩ := h
  exact ⟨hB, v, (hb.block b hlt).trans hv, hown.kept (row := none) ⟨hb.os, hb.tape, hb.output, hb.size, fun k hk _ => hb.block k hk⟩ (Classical.em _), hne⟩
theorem isB_below {T e : TypeId} {B b : Nat} {bs : List Value} {W W' : World} (h : Lib.IsBuilderF T e B b bs W) (hb : Below W.heap.size W W') : Lib.IsBuilderF T e B b bs W' :=
  h.elim (fun x => .inl (bAt_below x hb)) (fun x => .inr (bAt_below x hb))

/-- The slice at a holds the mismatches ms (nothing is said at length 0). -/
def MsAt (w : World) (a : Option Addr) (ms : List M) : Prop :=
  0 < ms.length → ∃ b o, a = some ⟨b, o, none⟩ ∧ ∀ i, i < ms.length →
    w.cell? ⟨b, o + i * 3, none⟩ = some (.int .i64 (ms.getD i mZero).side) ∧ w.cell? ⟨b, o + i * 3 + 1, none⟩ = some (.string (ms.getD i mZero).path) ∧ w.cell? ⟨b, o + i * 3 + 2, none⟩ = some (.string (ms.getD i mZero).reason)

theorem cell_lt {w : World} {p : Addr} {v : Value} (h : w.cell? p = some v) : p.block < w.heap.size := by
  rcases Nat.lt_or_ge p.block w.heap.size with h' | h'
  · exact h'
  · simp [World.cell?, Array.getElem?_eq_none h'] at h
theorem cell_below {w w' : World} (hb : Below w.heap.size w w') {p : Addr} {v : Value} (h : w.cell? p = some v) : w'.cell? p = some v := (hb.cell (cell_lt h)).trans h

theorem MsAt.below {w w' : World} {a : Option Addr} {ms : List M} (h : MsAt w a ms) (hb : Below w.heap.size w w') : MsAt w' a ms := by
  intro hl
  obtain ⟨b, o, e, hc⟩ := h hl
  exact ⟨b, o, e, fun i hi => ⟨cell_below hb (hc i hi).1, cell_below hb (hc i hi).2.1, cell_below hb (hc i hi).2.2⟩⟩

/-- The bounds that the walks need. -/
def MsOk (ms : List M) : Prop := ms.length ≤ 131072 ∧ ∀ i, i < ms.length → -9223372036854775808 ≤ (ms.getD i mZero).side ∧ (ms.getD i mZero).side ≤ 9223372036854775807 ∧ (ms.getD i mZero).path.size ≤ 1048576 ∧ (ms.getD i mZero).reason.size ≤ 1048576

def headC : ByteArray := ⟨#[99, 111, 110, 103, 114, 117, 101, 110, 116, 58, 32, 99, 97, 110, 110, 111, 116, 32, 99, 111, 110, 118, 101, 114, 116, 32]⟩
def headS (f t : ByteArray) : ByteArray := headC ++ f ++ ⟨#[32, 116, 111, 32]⟩ ++ t ++ ⟨#[58, 32]⟩
theorem headS_le (f t : ByteArray) (hf : f.size ≤ 1048576) (ht : t.size ≤ 1048576) : (headS f t).size ≤ 2097200 := by
  unfold headS
  simp only [ByteArray.size_append]
  have e1 : headC.size = 26 := rfl
  have e2 : (⟨#[32, 116, 111, 32]⟩ : ByteArray).size = 4 := rfl
  have e3 : (⟨#[58, 32]⟩ : ByteArray).size = 2 := rfl
  omega
theorem pathS_le (p : ByteArray) (h : p.size ≤ 1048576) : (pathS p).size ≤ 1048576 := by
  unfold pathS
  split
  · decide
  · exact h
theorem itemS_le (m : M) (h0 : -9223372036854775808 ≤ m.side) (h1 : m.side ≤ 9223372036854775807) (h2 : m.path.size ≤ 1048576) (h3 : m.reason.size ≤ 1048576) : (itemS m).size ≤ 2097200 := by
  unfold itemS
  simp only [ByteArray.size_append]
  have e2 : (⟨#[32]⟩ : ByteArray).size = 1 := rfl
  have e3 : (⟨#[58, 32]⟩ : ByteArray).size = 2 := rfl
  have := pathS_le _ h2
  have := sideS_le _ h0 h1
  omega
theorem dlen (s : ByteArray) : s.data.toList.length = s.size := Array.length_toList
theorem bodyN_le (ms : List M) (h : MsOk ms) : ∀ k, k ≤ ms.length → (bodyN ms k).length ≤ k * 2097202 := by
  intro k
  induction k with
  | zero => intro _; simp [bodyN]
  | succ k ih =>
    intro hk
    obtain ⟨a, b, c, d⟩ := h.2 k (by omega)
    have h1 := itemS_le _ a b c d
    have h2 := ih (by omega)
    have h3 : (if k = 0 then [] else [59, 32] : List UInt8).length ≤ 2 := by split <;> decide
    rw [bodyN, List.length_append, List.length_append, dlen]
    omega

/-- Text, in bytes. -/
def textS (f t : ByteArray) (ms : List M) : ByteArray := ⟨((headS f t).data.toList ++ bodyN ms ms.length).toArray⟩

/-- The loop's invariant: the builder holds l; below the call's own blocks nothing has turned. -/
structure LI (w wx : World) (l : List UInt8) : Prop where
  bld : Lib.IsBuilderF 39 5 w.heap.size w.heap.size (Lib.byteCells l) wx
  bel : Below w.heap.size w wx
theorem LI.lt {w wx : World} {l : List UInt8} (h : LI w wx l) : w.heap.size < wx.heap.size := h.bld.elim (·.lt) (·.lt)
theorem LI.grow {w wx wy : World} {l : List UInt8} (h : LI w wx l) (hb : Below wx.heap.size wx wy) : LI w wy l :=
  ⟨isB_below h.bld hb, h.bel.trans (hb.mono h.bel.size)⟩
/-- Inside a round: block n holds m. -/
structure RI (w wx : World) (l : List UInt8) (m : M) (n : Nat) : Prop where
  li : LI w wx l
  ne : n ≠ w.heap.size
  blk : wx.heap[n]? = some (.cells #[.int .i64 m.side, .string m.path, .string m.reason] 31 (0, 0))
theorem RI.c0 {w wx : World} {l : List UInt8} {m : M} {n : Nat} (h : RI w wx l m n) : wx.cell? ⟨n, 0, none⟩ = some (.int .i64 m.side) := by rw [Lib.cell_of_heap h.blk]; rfl
theorem RI.c1 {w wx : World} {l : List UInt8} {m : M} {n : Nat} (h : RI w wx l m n) : wx.cell? ⟨n, 1, none⟩ = some (.string m.path) := by rw [Lib.cell_of_heap h.blk]; rfl
theorem RI.c2 {w wx : World} {l : List UInt8} {m : M} {n : Nat} (h : RI w wx l m n) : wx.cell? ⟨n, 2, none⟩ = some (.string m.reason) := by rw [Lib.cell_of_heap h.blk]; rfl
theorem RI.grow {w wx wy : World} {l : List UInt8} {m : M} {n : Nat} (h : RI w wx l m n) (hb : Below wx.heap.size wx wy) : RI w wy l m n :=
  ⟨h.li.grow hb, h.ne, (hb.block n (Array.getElem?_eq_some_iff.1 h.blk).1).trans h.blk⟩
theorem RI.write {w wx wy : World} {l : List UInt8} {m : M} {n : Nat} {s : ByteArray} (h : RI w wx l m n)
    (hp : Lib.BuilderAtF 39 5 w.heap.size w.heap.size (.pointer (some ⟨w.heap.size, 0, none⟩)) (Lib.byteCells l ++ Lib.strCells s) wy ∧ Below w.heap.size wx wy ∧ Lib.OthersKept 5 (some w.heap.size) wx wy) :
    RI w wy (l ++ s.data.toList) m n := by
  refine ⟨⟨.inr ?_, h.li.bel.trans hp.2.1⟩, h.ne, hp.2.2 n _ h.blk (fun e => h.ne (Option.some.inj e)) (fun c fz e => by injection e with _ e2; exact absurd e2 (by decide))⟩
  rw [Lib.byteCells_append, ← Lib.strCells_eq]
  exact hp.1

theorem RI.wr {w wx : World} {l : List UInt8} {m : M} {n : Nat} {s : ByteArray} (h : RI w wx l m n) (hl : l.length + s.size ≤ 140737488355328) :
    Calls Tryd.prog 11 #[.pointer (some ⟨w.heap.size, 0, none⟩), .string s] wx fun e w' => e = .returned (.tuple #[.int .i64 s.size, .nilIface]) ∧ RI w w' (l ++ s.data.toList) m n := by
  refine (writeString_k w.heap.size w.heap.size (Lib.byteCells l) s wx h.li.bld (by rw [Lib.byteCells, List.length_map]; exact hl) h.li.bel.size).mono ?_
  rintro e w' ⟨rfl, hp⟩
  exact ⟨rfl, h.write hp⟩
theorem pow10At : Tryd.prog.globalNamed "internal/strconv.uint64pow10" = some 0 := by kernel_rfl

set_option maxHeartbeats 4000000 in
set_option maxRecDepth 100000 in
theorem text_any (fs ts : ByteArray) (a : Option Addr) (c : Nat) (ms : List M) (w : World) (hms : MsAt w a ms) (hok : MsOk ms) (hf : fs.size ≤ 1048576) (ht : ts.size ≤ 1048576)
    (htab : Lib.TabIs Tryd.prog w "internal/strconv.uint64pow10" .u64 Lib.pow10Tab) :
    Calls Tryd.prog 9 #[.string fs, .string ts, .slice a ms.length c] w fun e w' => e = .returned (.string (textS fs ts ms)) ∧ Below w.heap.size w w' := by
  have HT := (show Hid _ from htab); clear htab
  have HO := (show Hid _ from hok)
  have HM := (show Hid _ from hms); clear hms
  have hhl := headS_le fs ts hf ht
  have hln := hok.1
  clear hok
  have f1 := cat headC fs (by have e1 : headC.size = 26 := rfl; omega)
  have e1 : headC.size = 26 := rfl
  go_enter Tryd.func9, Tryd.ntmps9
  go_wp2_with (go_at_call 11; refine (writeString_k w.heap.size w.heap.size [] (headS fs ts) _ (Lib.IsBuilderF.of (Lib.fresh_isBuilder 39 5 w)) (by simp; omega) (by simp)).mono ?_)
  rintro e w1 ⟨rfl, h1⟩
  have L1 : LI w w1 (headS fs ts).data.toList := ⟨.inr (by have := h1.1; rwa [List.nil_append, Lib.strCells_eq] at this), ((Below.refl _ w).alloc (Nat.le_refl _) _).trans h1.2.1⟩
  clear h1
  go_wp2_with fail
  go_loopw [8, 9, 10, 20] (fun _ _ _ i wr => ∃ k : Nat, k ≤ ms.length ∧ i = .int .i64 k ∧ LI w wr ((headS fs ts).data.toList ++ bodyN ms k)) (fun _ _ _ i _ => ms.length - (intOf i).toNat)
  case atStart => exact ⟨0, Nat.zero_le _, rfl, by simpa [bodyN] using L1⟩
  case round =>
    obtain ⟨k, hk, rfl, L⟩ := hrel
    have hkl := bodyN_le ms HO.out k hk
    by_cases hlt : k < ms.length
    · obtain ⟨b, o, rfl, hcc⟩ := HM.out (by omega)
      obtain ⟨c0, c1, c2⟩ := hcc k hlt
      replace c0 := cell_below L.bel c0
      replace c1 := cell_below L.bel c1
      replace c2 := cell_below L.bel c2
      obtain ⟨s0, s1, s2, s3⟩ := HO.out.2 k hlt
      obtain ⟨m, hm⟩ : ∃ m, ms.getD k mZero = m := ⟨_, rfl⟩
      have HS : Hid (bodyN ms (k + 1) = bodyN ms k ++ (if k = 0 then [] else [59, 32]) ++ (itemS m).data.toList) := by show _ = _; rw [bodyN, hm]
      rw [hm] at c0 c1 c2 s0 s1 s2 s3
      clear hcc
      have HH := (show Hid _ from hm); clear hm
      have hbel := L.bel.size
      have hLlt := L.lt
      go_upto_if 26 with fail
      have R0 : RI w (wr.alloc (.cells #[.int .i64 m.side, .string m.path, .string m.reason] 31)) ((headS fs ts).data.toList ++ bodyN ms k) m wr.heap.size :=
        ⟨L.grow ((Below.refl _ _).alloc (Nat.le_refl _) _), by omega, heap_alloc_new _ _⟩
      have hbl : ((headS fs ts).data.toList ++ bodyN ms k).length ≤ 2097200 + k * 2097202 := by rw [List.length_append, dlen]; omega
      generalize hlv : (headS fs ts).data.toList ++ bodyN ms k = l at *
      have HL := (show Hid _ from hlv); clear hlv
      go_cut [] (fun wx => RI w wx (l ++ (if k = 0 then [] else [59, 32])) m wr.heap.size)
      case first =>
        go_wp2_with (go_at_call 11; refine (writeString_k w.heap.size w.heap.size (Lib.byteCells l) ⟨#[59, 32]⟩ _ R0.li.bld ?_ R0.li.bel.size).mono ?_)
        · have e9 : (⟨#[59, 32]⟩ : ByteArray).size = 2 := rfl
          rw [Lib.byteCells, List.length_map]; omega
        · rintro e w2 ⟨rfl, hp⟩
          have R1 := R0.write hp
          clear hp
          go_wp2_with fail
          go_meet
          case rel => rw [if_neg (by omega)]; exact R1
        · go_meet
          case rel => rw [if_pos (by omega), List.append_nil]; exact R0
      case rest =>
        obtain ⟨l2, hl2⟩ : ∃ l2, l ++ (if k = 0 then [] else [59, 32]) = l2 := ⟨_, rfl⟩
        rw [hl2] at hcut
        have hl2l : l2.length ≤ 2097202 + k * 2097202 := by
          have h3 : (if k = 0 then [] else [59, 32] : List UInt8).length ≤ 2 := by split <;> decide
          rw [← hl2, List.length_append]; omega
        have HL2 := (show Hid _ from hl2); clear hl2 R0 L c0 c1 c2
        have R1 := hcut
        clear hcut
        have c0 := R1.c0
        have c1 := R1.c1
        have c2 := R1.c2
        go_upto_if 31 with fail
        go_cut [10] (fun p wx => p = .string (pathS m.path) ∧ wx = wc)
        case first =>
          go_wp2_with fail
          · go_meet
            case rel => rename_i hp; exact ⟨by rw [pathS, if_pos (by simpa using hp)], rfl⟩
          · go_meet
            case rel => rename_i hp; exact ⟨by rw [pathS, if_neg (by simpa using hp)], rfl⟩
        case rest =>
          obtain ⟨rfl, rfl⟩ := hcut
          have HT2 : Hid (Lib.TabIs Tryd.prog _ "internal/strconv.uint64pow10" .u64 Lib.pow10Tab) := Joins.tab_stays pow10At HT.out R1.li.bel (Nat.le_refl _)
          have q1 := sideS_le _ s0 s1
          have q2 := pathS_le _ s2
          have HC := (show Hid _ from side_any m.side s0 s1)
          generalize hsd : sideS m.side = sd at *
          generalize hpt : pathS m.path = pt at *
          have HI : Hid (itemS m = sd ++ ⟨#[32]⟩ ++ pt ++ ⟨#[58, 32]⟩ ++ m.reason) := by show _ = _; rw [itemS, hsd, hpt]
          have HSD := (show Hid _ from hsd); clear hsd hpt
          have z1 : (⟨#[32]⟩ : ByteArray).size = 1 := rfl
          have z2 : (⟨#[58, 32]⟩ : ByteArray).size = 2 := rfl
          have k1 := cat sd ⟨#[32]⟩ (by omega)
          have k2 := cat (sd ++ ⟨#[32]⟩) pt (by rw [ByteArray.size_append]; omega)
          have k3 := cat (sd ++ ⟨#[32]⟩ ++ pt) ⟨#[58, 32]⟩ (by rw [ByteArray.size_append, ByteArray.size_append]; omega)
          have k4 := cat (sd ++ ⟨#[32]⟩ ++ pt ++ ⟨#[58, 32]⟩) m.reason (by rw [ByteArray.size_append, ByteArray.size_append, ByteArray.size_append]; omega)
          have HQ : Hid (l2.length + (sd ++ ⟨#[32]⟩ ++ pt ++ ⟨#[58, 32]⟩ ++ m.reason).size ≤ 140737488355328) := by
            show _ ≤ _
            simp only [ByteArray.size_append]
            omega
          go_upto_region 11 with fail
          go_region_with (first
            | (go_at_call 5; go_loud (refine (HC.out _ ?_).mono ?_; (· exact HT2.out); rintro e w5 ⟨rfl, hb5⟩; have R5 := R1.grow ((Below.refl _ _).drew.trans hb5); have d0 := R5.c0; have d1 := R5.c1; have d2 := R5.c2))
            | (go_at_call 11; refine (R5.wr ?_).mono ?_; (· exact HQ.out); rintro e w6 ⟨rfl, R6⟩))
          all_goals
            go_wp2_with fail
            go_roundw
            case rel =>
              refine ⟨k + 1, by omega, by go_num, ?_⟩
              have e1 := HS.out
              rw [e1, ← List.append_assoc, ← List.append_assoc, HL.out, HL2.out, HI.out]
              exact R6.li
            case measure => simp [intOf]; omega
    · have hke : k = ms.length := by omega
      subst hke
      go_wp2_with (go_at_call 12; refine (Tryd.Builder_String_any_k w.heap.size w.heap.size ((headS fs ts).data.toList ++ bodyN ms ms.length) _ L.bld L.bel.size).mono ?_)
      rintro e w7 ⟨rfl, hp⟩
      have hb7 := L.bel.trans hp.2.1
      clear hp
      go_wp2_with fail
      go_ret
      exact ⟨rfl, hb7⟩

end Go.Proofs.Qxb6603985aDoor
