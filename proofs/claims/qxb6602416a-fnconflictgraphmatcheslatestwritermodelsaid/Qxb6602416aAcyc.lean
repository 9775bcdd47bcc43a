import Derived.Test.Qxb6602416aFill
import Derived.Test.Qxb6602416aKahn
namespace Go.Proofs.Qxb6602416a
open Go.RowKit
set_option linter.unusedVariables false

/-- Rows to be read: the slice at block S has n cells, each a slice of numbers. -/
def RowsRd (w : World) (S n : Nat) (f : Nat → List Int) : Prop :=
  ∀ x, x < n → ∃ a cap, w.cell? ⟨S, x, none⟩ = some (.slice a (f x).length cap) ∧ CellsAt (Value.int .i64) 0 w a (f x)
theorem Rows2.rd {own : Nat → Tag} {w : World} {c S n : Nat} {f : Nat → List Int} (h : Rows2 own w c S n f) : RowsRd w S n f := by
  obtain ⟨_, cs, hh, hs, hr⟩ := h
  intro x hx
  obtain ⟨v, hv, hrow⟩ := hr x hx
  obtain ⟨a, cap, rfl, hc⟩ := hrow.form
  exact ⟨a, cap, cell_of_cells hh hv, hc⟩
theorem RowsRd.below {w w' : World} {S n : Nat} {f : Nat → List Int} (h : RowsRd w S n f) (hb : Below w.heap.size w w') : RowsRd w' S n f := by
  intro x hx
  obtain ⟨a, cap, h1, h2⟩ := h x hx
  exact ⟨a, cap, hcell_below hb h1, h2.below hb⟩

/-- A block of n numbers. -/
def IntsBlk (w : World) (D n : Nat) (d : Nat → Int) : Prop := ∃ cur : Array Value, w.heap[D]? = some (.cells cur 3 (0, 0)) ∧ cur.size = n ∧ ∀ t, t < n → cur[t]? = some (.int .i64 (d t))
theorem IntsBlk.cell {w : World} {D n : Nat} {d : Nat → Int} (h : IntsBlk w D n d) {t : Nat} (ht : t < n) : w.cell? ⟨D, t, none⟩ = some (.int .i64 (d t)) := by
  obtain ⟨cur, hg, hs, hc⟩ := h
  exact cell_of_cells hg (hc t ht)
theorem IntsBlk.free {w : World} {D n : Nat} {d : Nat → Int} (h : IntsBlk w D n d) (t : Nat) : w.frozen? ⟨D, t, none⟩ = false := by
  obtain ⟨cur, hg, hs, hc⟩ := h
  exact free_of_cells hg
theorem IntsBlk.set {w : World} {D n : Nat} {d : Nat → Int} (h : IntsBlk w D n d) {t : Nat} (ht : t < n) (y : Int) : IntsBlk (w.setCell ⟨D, t, none⟩ (.int .i64 y)) D n (fun i => if i = t then y else d i) := by
  obtain ⟨cur, hg, hs, hc⟩ := h
  refine ⟨cur.setIfInBounds t (.int .i64 y), heap_setCell_same w D t cur 3 _ hg, by simpa using hs, fun i hi => ?_⟩
  by_cases e : i = t
  · subst e; rw [Array.getElem?_setIfInBounds_self_of_lt (by omega)]; simp
  · rw [Array.getElem?_setIfInBounds_ne (Ne.symm e)]; simp only [if_neg e]; exact hc i hi
theorem IntsBlk.kept {w w' : World} {D n : Nat} {d : Nat → Int} (h : IntsBlk w D n d) (hb : w'.heap[D]? = w.heap[D]?) : IntsBlk w' D n d := by
  obtain ⟨cur, hg, hs, hc⟩ := h
  exact ⟨cur, by rw [hb]; exact hg, hs, hc⟩
theorem IntsBlk.lt {w : World} {D n : Nat} {d : Nat → Int} (h : IntsBlk w D n d) : D < w.heap.size := by
  obtain ⟨cur, hg, hs, hc⟩ := h
  exact lt_of_heap hg
theorem IntsBlk.congr {w : World} {D n : Nat} {d d' : Nat → Int} (h : IntsBlk w D n d) (he : ∀ t, t < n → d t = d' t) : IntsBlk w D n d' := by
  obtain ⟨cur, hg, hs, hc⟩ := h
  exact ⟨cur, hg, hs, fun t ht => by rw [← he t ht]; exact hc t ht⟩
theorem ints_made {w : World} {D n base : Nat} (h : w.ownsRow base 3 1 (.slice (some ⟨D, 0, none⟩) n n) n (madeCells (Value.int .i64 0).cells (n * 1)).toList) : IntsBlk w D n (fun _ => 0) := by
  rcases h.2 with ⟨h', _⟩ | ⟨g', cap', cur, h', _, hg, _, _, hs, ht⟩
  · simp at h'
  · simp only [Value.slice.injEq, Option.some.injEq, Addr.mk.injEq, and_true, true_and] at h'
    obtain ⟨rfl, rfl⟩ := h'
    refine ⟨cur, hg, by simpa using hs, fun i hi => ?_⟩
    have e1 : (madeCells (Value.int .i64 0).cells (n * 1)).toList = List.replicate n (.int .i64 0) := by rw [Nat.mul_one]; exact toList_madeCells_one _ n
    rw [e1] at ht
    have e2 : (cur.toList.take (n * 1))[i]? = (List.replicate n (Value.int .i64 0))[i]? := by rw [ht]
    rw [List.getElem?_take, if_pos (by omega)] at e2
    simpa [hi] using e2

theorem sumC_mono (f : Nat → List Int) (k : Nat → Bool) (t : Int) (X : Nat) : ∀ n, X ≤ n → Kahn.sumC f k t X ≤ Kahn.sumC f k t n := by
  intro n
  induction n with
  | zero => intro h; rw [Nat.le_zero.1 h]; exact Nat.le_refl _
  | succ n ih =>
    intro h
    rcases Nat.lt_or_ge X (n + 1) with h1 | h1
    · have := ih (by omega)
      simp only [Kahn.sumC]; omega
    · have : X = n + 1 := by omega
      rw [this]; exact Nat.le_refl _
theorem cntTo_le (f : Nat → List Int) (n X k : Nat) (t : Int) (h : X < n) : Kahn.cntTo f X k t ≤ Kahn.cntTo f n 0 t := by
  rw [Kahn.cntTo_end]
  have h1 := sumC_mono f (fun _ => true) t (X + 1) n h
  have h2 : ((f X).take k).count t ≤ (f X).count t := List.Sublist.count_le t (List.take_sublist k (f X))
  simp only [Kahn.sumC, if_true] at h1
  unfold Kahn.cntTo
  omega
theorem nat_of_row {f : Nat → List Int} {n x k : Nat} (h : ∀ t ∈ f x, 0 ≤ t ∧ t < (n : Int)) (hk : k < (f x).length) : ∃ t : Nat, (f x)[k] = (t : Int) ∧ t < n ∧ (f x).getD k 0 = (t : Int) := by
  have := h (f x)[k] (List.getElem_mem hk)
  refine ⟨((f x)[k]).toNat, by omega, by omega, ?_⟩
  simp [List.getD, hk]; omega

theorem owns_form {w : World} {base : Nat} {v : Value} {xs : List Int} (ho : w.ownsRow base 3 1 v xs.length (xs.map (Value.int .i64))) : ∃ a cap, v = .slice a xs.length cap ∧ CellsAt (Value.int .i64) 0 w a xs := by
  rcases ho.2 with ⟨rfl, h0⟩ | ⟨g, cap, cur, rfl, hb, hgg, _, _, _, ht⟩
  · exact ⟨none, 0, by rw [h0], fun h => by omega⟩
  · refine ⟨_, cap, rfl, fun _ => ⟨g, 0, rfl, fun i hi => ?_⟩⟩
    have := ho.cells (g := g) rfl i (.int .i64 (xs.getD i 0)) (by simp [hi])
    rw [Addr.add_mid] at this; exact this
/-- Behind an append to a row from 'base' on: a block below it is as it was. -/
theorem grown_below {w w1 : World} {base D n : Nat} {v : Value} {xs : List Value} {d : Nat → Int} (hd : IntsBlk w D n d) (hD : D < base) (ho : w.ownsRow base 3 1 v xs.length xs) (o : Obj) (hg : (w.alloc o).grownBy w1 v.ownBlock) : IntsBlk w1 D n d := by
  have hl := hd.lt
  refine hd.kept ?_
  rw [hg.block D (by simp; omega) (fun e => by have := (ho.lt D e.symm).1; omega), Below.heap_alloc _ _ _ hl]
theorem grown_below2 {w W w1 : World} {base : Nat} {v : Value} {xs : List Value} {B : Nat} (hb : Below B W w) (hB : B ≤ base) (hBw : B ≤ w.heap.size) (ho : w.ownsRow base 3 1 v xs.length xs) (o : Obj) (hg : (w.alloc o).grownBy w1 v.ownBlock) : Below B W w1 :=
  (hb.alloc hBw o).grown hg (by simp; omega) (fun k hk => by have := (ho.lt k hk).1; omega)
theorem kinv_bound {f : Nat → List Int} {n : Nat} {q : List Int} {h : Nat} {d : Nat → Int} (H : Kahn.KInv f n q h d) (hb : ∀ t : Nat, t < n → Kahn.cntTo f n 0 t ≤ 100000000) (t : Nat) (ht : t < n) : 0 ≤ d t ∧ d t ≤ 100000000 := by
  have h1 := H.cnt t ht
  have h2 := hb t ht
  rw [Kahn.cntTo_end] at h2
  have h3 : Kahn.sumC f (fun a => !(q.take h).contains (a : Int)) t n ≤ Kahn.sumC f (fun _ => true) t n := Kahn.sumC_le n (fun a _ => rfl)
  omega

theorem cell_box_set (w : World) (p : Addr) (u x : Value) (e : TypeId) : ∀ j v, [x][j]? = some v → ((w.setCell p u).alloc (.cells #[x] e)).cell? ((⟨w.heap.size, 0, none⟩ : Addr).add j) = some v := by
  have h := cell_one_new (w.setCell p u) x e
  have e1 : (w.setCell p u).heap.size = w.heap.size := by simp [World.setCell]
  rw [e1] at h
  exact h

set_option maxRecDepth 100000 in
set_option maxHeartbeats 2000000 in
theorem acyclic_any (w : World) (S n : Nat) (f : Nat → List Int) (hR : RowsRd w S n f) (hn : n ≤ 4096) (hf : ∀ x, x < n → (∀ t ∈ f x, 0 ≤ t ∧ t < n) ∧ (f x).length ≤ 100000000) (hb : ∀ t : Nat, t < n → Kahn.cntTo f n 0 t ≤ 100000000)
    (rank : Nat → Nat) (hr : ∀ a t : Nat, a < n → t < n → (t : Int) ∈ f a → rank a < rank t) :
    Calls Try.prog 22 #[.slice (some ⟨S, 0, none⟩) n n] w fun e w' => e = .returned (.bool true) ∧ Below w.heap.size w w' := by
  obtain ⟨i0, hi, hz0, hz1, hz2⟩ := info_parts Try.info3
  go_enter Try.func22, Try.ntmps22
  go_wp2_with (at_make; refine wpList_make_full _ rfl (.tmp 16) (.tmp 16) 22 rfl 0 3 i0 (.int .i64 0) 1 Try.underlying22 hi hz0 hz1 .i64 .i64 _ _ n rfl rfl rfl rfl (by rw [hz2]; omega) (by unfold maxLen; omega) (Nat.zero_le _) ?_; intro w1 hS hgS)
  have hb1 : Below w.heap.size w w1 := (Below.refl _ _).grown hgS (Nat.le_refl _) (fun k h => by cases h)
  have hd1 := ints_made hS
  clear hS hgS
  go_loopw [2, 5, 6, 7] (fun _ t _ _ wr => ∃ X : Nat, X ≤ n ∧ t = .int .i64 X ∧ Below w.heap.size w wr ∧ IntsBlk wr w.heap.size n (fun t => (Kahn.cntTo f X 0 t : Nat))) (fun _ t _ _ _ => n - (intOf t).toNat)
  case atStart => exact ⟨0, Nat.zero_le _, rfl, hb1, hd1.congr (fun t _ => by rw [Kahn.cntTo_zero]; rfl)⟩
  case round =>
    clear hb1 hd1
    obtain ⟨X, hX, rfl, hbx, hdx⟩ := hrel
    by_cases hlt : X < n
    · obtain ⟨aX, cX, hcX, hcells⟩ := hR.below hbx X hlt
      have hfX := hf X hlt
      go_wp2_with fail
      go_loopw [2, 6, 7] (fun _ t _ wr => ∃ k : Nat, k ≤ (f X).length ∧ t = .int .i64 k ∧ Below w.heap.size w wr ∧ IntsBlk wr w.heap.size n (fun t => (Kahn.cntTo f X k t : Nat))) (fun _ t _ _ => (f X).length - (intOf t).toNat)
      case atStart => exact ⟨0, Nat.zero_le _, rfl, hbx, hdx⟩
      case round =>
        clear hcX hcells hbx hdx
        obtain ⟨k, hk, rfl, hbx, hdx⟩ := hrel
        obtain ⟨aX, cX, hcX, hcells⟩ := hR.below hbx X hlt
        by_cases hlt2 : k < (f X).length
        · obtain ⟨t, ht1, htn, ht2⟩ := nat_of_row hfX.1 hlt2
          obtain ⟨b, off, rfl, hcc⟩ := hcells (by omega)
          have hck := hcc k hlt2
          rw [ht2] at hck
          have hdt := hdx.cell htn
          have hft := hdx.free t
          have hbd := cntTo_le f n X k t hlt
          have hbd2 := hb t htn
          have HT := (show Hid _ from ht1); clear ht1 ht2 hcc hcells
          go_wp2_with fail
          go_roundw
          case rel =>
            refine ⟨k + 1, by omega, by go_num, hbx.setCell (Nat.le_refl _) _, (hdx.set htn _).congr (fun i hi => ?_)⟩
            rw [Kahn.cntTo_step f X k i hlt2, HT.out]
            by_cases e : i = t
            · subst e; simp
            · rw [if_neg e, if_neg (by omega)]; rfl
          case measure => simp [intOf]; omega
        · have hke : k = (f X).length := by omega
          subst hke
          go_wp2_with fail
          go_roundw
          case rel => exact ⟨X + 1, by omega, by go_num, hbx, hdx.congr (fun t _ => by rw [Kahn.cntTo_next])⟩
          case measure => simp [intOf]; omega
    · have hXe : n = X := by omega
      subst hXe
      have hDl := hdx.lt
      obtain ⟨d, hd⟩ : ∃ d : Nat → Int, d = fun t : Nat => ((Kahn.cntTo f n 0 (t : Int) : Nat) : Int) := ⟨_, rfl⟩
      have hstart : Kahn.KInv f n (Kahn.zeros d n) 0 d := Kahn.kinv_start (fun t _ => by rw [hd])
      have hdb : ∀ t, t < n → 0 ≤ d t ∧ d t ≤ 100000000 := kinv_bound hstart hb
      rw [← hd] at hdx
      clear hd
      have HST := (show Hid _ from hstart); clear hstart
      go_wp2_with (at_make; refine wpList_make_own _ rfl _ (.tmp 52) 22 rfl (w.heap.size + 1) 3 i0 (.int .i64 0) 1 Try.underlying22 hi hz0 hz1 .i64 .i64 _ n rfl rfl rfl (by rw [hz2]; omega) (by unfold maxLen; omega) hDl ?_; intro w2 hq2 hg2)
      have hd2 := hdx.kept (hg2.block _ hDl (by simp))
      have hb2 := hbx.grown hg2 (by omega) (fun k h => by cases h)
      go_loopw [8, 9] (fun v t wr => ∃ x : Nat, x ≤ n ∧ t = .int .i64 x ∧ Below w.heap.size w wr ∧ IntsBlk wr w.heap.size n d ∧ wr.ownsRow (w.heap.size + 1) 3 1 v (Kahn.zeros d x).length ((Kahn.zeros d x).map (Value.int .i64))) (fun _ t _ => n - (intOf t).toNat)
      case atStart => exact ⟨0, Nat.zero_le _, rfl, hb2, hd2, hq2⟩
      case round =>
        clear hb2 hd2 hq2 hg2 hbx hdx hDl
        obtain ⟨x, hx, rfl, hbx, hdx, hq⟩ := hrel
        have hDl := hdx.lt
        by_cases hlt : x < n
        · have hdc := hdx.cell hlt
          have hzl := Kahn.nodup_bound x _ (Kahn.zeros_good d x)
          obtain ⟨aq, cq, rfl, hqc⟩ := owns_form hq
          clear hqc
          by_cases hz : (d x == 0) = true
          · have hz' : Kahn.zeros d (x + 1) = Kahn.zeros d x ++ [(x : Int)] := by simp only [Kahn.zeros]; rw [if_pos (by simpa using hz)]
            have HZ := (show Hid _ from hz'); clear hz'
            go_wp2_with (at_builtin; refine wpList_append_lies _ rfl _ _ 22 rfl (w.heap.size + 1) 3 i0 (.int .i64 0) 1 8 Try.underlying22 hi hz0 hz1 hz2 rfl (by decide) (.slice aq (Kahn.zeros d x).length cq) (Kahn.zeros d x).length ((Kahn.zeros d x).map (Value.int .i64)) rfl (by exact hq.alloc _) ⟨wr.heap.size, 0, none⟩ 1 1 [.int .i64 (x : Int)] rfl rfl (by exact cell_one_new _ _ _) (ints_oneCell .i64 [(x : Int)]) (by decide) (by unfold maxLen; omega) (by omega) (by simp; omega) (wr.heap.size + 1) (by simp) ?_; intro g cp w3 hown hgrow hat hl3)
            have hq' : wr.ownsRow (w.heap.size + 1) 3 1 (.slice aq (Kahn.zeros d x).length cq) ((Kahn.zeros d x).map (Value.int .i64)).length ((Kahn.zeros d x).map (Value.int .i64)) := by rw [List.length_map]; exact hq
            go_roundw
            case rel => exact ⟨x + 1, by omega, by go_num, grown_below2 hbx (by omega) (by omega) hq' _ hgrow, grown_below hdx (by omega) hq' _ hgrow, by rw [HZ.out]; simpa using hown⟩
            case measure => simp [intOf]; omega
          · have hzf : (d x == 0) = false := eq_false_of_ne_true hz
            have hz' : Kahn.zeros d (x + 1) = Kahn.zeros d x := by simp only [Kahn.zeros]; rw [if_neg (by simpa using hzf), List.append_nil]
            have HZ := (show Hid _ from hz'); clear hz' hz
            go_wp2_with fail
            go_roundw
            case rel => exact ⟨x + 1, by omega, by go_num, hbx, hdx, by rw [HZ.out]; exact hq⟩
            case measure => simp [intOf]; omega
        · have hxe : n = x := by omega
          subst hxe
          have hz0l := Kahn.nodup_bound n _ (Kahn.zeros_good d n)
          go_wp2_with fail
          go_loopw [8, 10, 11, 12, 13] (fun v t _ _ _ wr => ∃ (q : List Int) (h : Nat) (d : Nat → Int), h ≤ q.length ∧ t = .int .i64 h ∧ Below w.heap.size w wr ∧ IntsBlk wr w.heap.size n d ∧ wr.ownsRow (w.heap.size + 1) 3 1 v q.length (q.map (Value.int .i64)) ∧ Kahn.KInv f n q h d ∧ ∀ t, t < n → d t ≤ 100000000) (fun _ t _ _ _ _ => n + 1 - (intOf t).toNat)
          case atStart => exact ⟨_, 0, d, Nat.zero_le _, rfl, hbx, hdx, hq, HST.out, fun t ht => (hdb t ht).2⟩
          case round =>
            clear hbx hdx hq hdb HST hDl hz0l hlt hx
            obtain ⟨q, h, d, hh, rfl, hbx, hdx, hq, hK, hdm⟩ := hrel
            have hDl := hdx.lt
            have hql := Kahn.nodup_bound n q hK.good
            obtain ⟨aq, cq, rfl, hqc⟩ := owns_form hq
            by_cases hlt : h < q.length
            · obtain ⟨x, hx1⟩ : ∃ x : Nat, q[h] = (x : Int) := ⟨(q[h]).toNat, by have := hK.good.2 q[h] (List.getElem_mem hlt); omega⟩
              obtain ⟨hxn, hM⟩ := hK.begin hlt hx1
              obtain ⟨bq, oq, rfl, hqcc⟩ := hqc (by omega)
              have hqh := hqcc h hlt
              have hx2 : q.getD h 0 = (x : Int) := by simp [List.getD, hlt]; exact hx1
              rw [hx2] at hqh
              clear hx1 hx2 hqcc hqc hK
              have hfx := hf x hxn
              go_wp2_with fail
              go_loopw [8, 12, 13] (fun v t _ wr => ∃ (q : List Int) (k : Nat) (d : Nat → Int), k ≤ (f x).length ∧ t = .int .i64 k ∧ Below w.heap.size w wr ∧ IntsBlk wr w.heap.size n d ∧ wr.ownsRow (w.heap.size + 1) 3 1 v q.length (q.map (Value.int .i64)) ∧ Kahn.KMid f n q h x k d ∧ h < q.length ∧ ∀ t, t < n → d t ≤ 100000000) (fun _ t _ _ => (f x).length - (intOf t).toNat)
              case atStart => exact ⟨q, 0, d, Nat.zero_le _, rfl, hbx, hdx, hq, hM, hlt, hdm⟩
              case round =>
                clear hbx hdx hq hDl hM hqh hql hdm
                obtain ⟨q, k, d, hk, rfl, hbx, hdx, hq, hM, hlq, hdm⟩ := hrel
                have hDl := hdx.lt
                have hql := Kahn.nodup_bound n q hM.good
                obtain ⟨aq, cq, rfl, hqc⟩ := owns_form hq
                clear hqc
                obtain ⟨aX, cX, hcX, hcells⟩ := hR.below hbx x hxn
                by_cases hlt2 : k < (f x).length
                · obtain ⟨t, ht1, htn, ht2⟩ := nat_of_row hfx.1 hlt2
                  obtain ⟨b, off, rfl, hcc⟩ := hcells (by omega)
                  have hck := hcc k hlt2
                  rw [ht2] at hck
                  have hdt := hdx.cell htn
                  have hft := hdx.free t
                  obtain ⟨hpos, hs1, hs2⟩ := hM.step hlt2 ht1 htn
                  have hdb : d t ≤ 100000000 := hdm t htn
                  have hdm' : Hid (∀ i, i < n → (if i = t then d t - 1 else d i) ≤ 100000000) := fun i hi => by split <;> first | exact hdm i hi | omega
                  have H1 := (show Hid _ from hs1)
                  have H2 := (show Hid _ from hs2)
                  clear hs1 hs2 ht1 ht2 hcc hcells
                  by_cases hz : (d t - 1 == 0) = true
                  · go_wp2_with (at_builtin; refine wpList_append_lies _ rfl _ _ 22 rfl (w.heap.size + 1) 3 i0 (.int .i64 0) 1 8 Try.underlying22 hi hz0 hz1 hz2 rfl (by decide) (.slice aq q.length cq) q.length (q.map (Value.int .i64)) rfl (by exact (ownsRow_setCell_below hq (Nat.lt_succ_self _) _).alloc _) ⟨wr.heap.size, 0, none⟩ 1 1 [.int .i64 (t : Int)] rfl rfl (by exact cell_box_set _ _ _ _ _) (ints_oneCell .i64 [(t : Int)]) (by decide) (by unfold maxLen; omega) (by omega) (by simp; omega) (wr.heap.size + 1) (by simp) ?_; intro g cp w3 hown hgrow hat hl3)
                    have hq' : (wr.setCell ⟨w.heap.size, t, none⟩ (.int .i64 (d t - 1))).ownsRow (w.heap.size + 1) 3 1 (.slice aq q.length cq) (q.map (Value.int .i64)).length (q.map (Value.int .i64)) := by rw [List.length_map]; exact ownsRow_setCell_below hq (Nat.lt_succ_self _) _
                    have hsz : (wr.setCell ⟨w.heap.size, t, none⟩ (.int .i64 (d t - 1))).heap.size = wr.heap.size := by simp [World.setCell]
                    go_roundw
                    case rel => exact ⟨q ++ [(t : Int)], k + 1, _, by omega, by go_num, grown_below2 (hbx.setCell (Nat.le_refl _) _) (by omega) (by rw [hsz]; omega) hq' _ hgrow, grown_below (hdx.set htn _) (by omega) hq' _ hgrow, by simpa using hown, H2.out (by simpa using hz), by simp; omega, hdm'.out⟩
                    case measure => simp [intOf]; omega
                  · have hzf : (d t - 1 == 0) = false := eq_false_of_ne_true hz
                    clear hz
                    go_wp2_with fail
                    go_roundw
                    case rel => exact ⟨q, k + 1, _, by omega, by go_num, hbx.setCell (Nat.le_refl _) _, hdx.set htn _, ownsRow_setCell_below hq (by simp) _, H1.out (by simpa using hzf), hlq, hdm'.out⟩
                    case measure => simp [intOf]; omega
                · have hke : k = (f x).length := by omega
                  subst hke
                  go_wp2_with fail
                  go_roundw
                  case rel => exact ⟨q, h + 1, d, by omega, by go_num, hbx, hdx, hq, hM.finish, hdm⟩
                  case measure => simp [intOf]; omega
            · have hhe : h = q.length := by omega
              subst hhe
              have hall := hK.all rank hr
              go_wp2_with fail
              go_ret
              exact ⟨rfl, hbx⟩

end Go.Proofs.Qxb6602416a
