import Derived.Test.Qxb6603128aRows
import Derived.WalkKit
import Derived.WalkSpells
import Derived.WalkLawsBesides
import Derived.Deep.QuietTactic
import Derived.BigQuiet
namespace Go.Proofs.Qxb6603128a
open Go.RowKit
set_option linter.unusedVariables false

theorem Try.info5 : (Try.prog.info? 5).map (fun i => (i.zero, i.size, i.bytes)) = some (some (.int .u8 0), 1, 1) := by kernel_rfl

/-- The slice at 'a' holds the values 'f x' for x in xs. -/
def CellsAt {α : Type} (f : α → Value) (d : α) (w : World) (a : Option Addr) (xs : List α) : Prop :=
  0 < xs.length → ∃ b off, a = some ⟨b, off, none⟩ ∧ ∀ i, i < xs.length → w.cell? ⟨b, off + i, none⟩ = some (f (xs.getD i d))

theorem CellsAt.below {α : Type} {f : α → Value} {d : α} {w w' : World} {a : Option Addr} {xs : List α} (h : CellsAt f d w a xs) (hb : Below w.heap.size w w') : CellsAt f d w' a xs := by
  intro h0
  obtain ⟨b, off, ha, hc⟩ := h h0
  refine ⟨b, off, ha, fun i hi => ?_⟩
  have hlt : b < w.heap.size := World.block_lt_of_cell? w ⟨b, off + i, none⟩ (hc i hi)
  rw [hb.cell hlt]
  exact hc i hi

theorem hcell_below {w w' : World} {p : Addr} {v : Value} (hb : Below w.heap.size w w') (h : w.cell? p = some v) : w'.cell? p = some v := by
  rw [hb.cell (World.block_lt_of_cell? w p h)]; exact h

/-- A block of the call's own, being filled: the first k cells hold what they shall hold. -/
def RowPart {α : Type} (f : α → Value) (d : α) (w : World) (g : Nat) (e : TypeId) (xs : List α) (k : Nat) : Prop :=
  ∃ cur : Array Value, w.heap[g]? = some (.cells cur e (0, 0)) ∧ cur.size = xs.length ∧ ∀ i, i < k → cur[i]? = some (f (xs.getD i d))

section
variable {α : Type} {f : α → Value} {d : α} {w : World} {g : Nat} {e : TypeId} {xs : List α} {k : Nat}

theorem rowPart_made {base : Nat} {ys : List Value} (h : w.ownsRow base e 1 (.slice (some ⟨g, 0, none⟩) xs.length xs.length) xs.length ys) : RowPart f d w g e xs 0 := by
  rcases h.2 with ⟨h', _⟩ | ⟨g', cap', cur, h', _, hg, _, _, hs, _⟩
  · simp at h'
  · simp only [Value.slice.injEq, Option.some.injEq, Addr.mk.injEq, and_true, true_and] at h'
    obtain ⟨rfl, rfl⟩ := h'
    exact ⟨cur, hg, by simpa using hs, fun i hi => by omega⟩

theorem RowPart.cell (h : RowPart f d w g e xs k) (hk : k < xs.length) : ∃ v, w.cell? ⟨g, k, none⟩ = some v := by
  obtain ⟨cur, hg, hs, _⟩ := h
  exact ⟨cur[k]'(by omega), by simp [World.cell?, hg, hs, hk]⟩

theorem RowPart.free (h : RowPart f d w g e xs k) (j : Nat) : w.frozen? ⟨g, j, none⟩ = false := by
  obtain ⟨cur, hg, hs, _⟩ := h
  simp [World.frozen?, hg]

theorem RowPart.store (h : RowPart f d w g e xs k) (hk : k < xs.length) (v : Value) (hv : v = f (xs.getD k d)) : RowPart f d (w.setCell ⟨g, k, none⟩ v) g e xs (k + 1) := by
  obtain ⟨cur, hg, hs, hc⟩ := h
  refine ⟨cur.setIfInBounds k v, heap_setCell_same w g k cur e v hg, by simpa using hs, fun i hi => ?_⟩
  by_cases hik : i = k
  · subst hik; rw [hv, Array.getElem?_setIfInBounds_self_of_lt (by omega)]
  · rw [Array.getElem?_setIfInBounds_ne (by omega)]; exact hc i (by omega)

theorem RowPart.full (h : RowPart f d w g e xs k) (hk : xs.length ≤ k) : CellsAt f d w (some ⟨g, 0, none⟩) xs := by
  obtain ⟨cur, hg, hs, hc⟩ := h
  intro _
  refine ⟨g, 0, rfl, fun i hi => ?_⟩
  rw [Nat.zero_add]
  simpa [World.cell?, hg] using hc i (by omega)
end

theorem add_mid' (b o j : Nat) : (⟨b, o, none⟩ : Addr).add j = ⟨b, o + j, none⟩ := by unfold Addr.add; split <;> simp_all
theorem cellsAt_of {α : Type} {f : α → Value} {d : α} {W : World} {x : Addr} {zs : List α} {len : Nat} (hl : len ≤ zs.length) (hc : ∀ i, i < zs.length → W.cell? (x.add i) = some (f (zs.getD i d))) :
    (zs.take len).length = len ∧ CellsAt f d W (some x) (zs.take len) := by
  have e1 : (zs.take len).length = len := by rw [List.length_take]; omega
  refine ⟨e1, fun h0 => ?_⟩
  obtain ⟨b, off, spot⟩ := x
  have h00 : 0 < zs.length := by omega
  have hspot : spot = none := by simpa [Addr.add] using World.cell?_spot (hc 0 h00)
  subst hspot
  refine ⟨b, off, rfl, fun i hi => ?_⟩
  have := hc i (by omega)
  rw [add_mid'] at this
  rw [this]
  have : (zs.take len).getD i d = zs.getD i d := by
    simp only [List.getD, List.getElem?_take]
    rw [if_pos (by omega)]
  rw [this]

set_option maxRecDepth 100000 in
set_option maxHeartbeats 400000 in
theorem copyBytes_any (w : World) (a : Option Addr) (cap : Nat) (zs : List Int) (hc : CellsAt (Value.int .u8) 0 w a zs) (hl : zs.length ≤ 1048576) :
    Calls Try.prog 9 #[.slice a zs.length cap] w fun e w' => ∃ a' c', e = .returned (.slice a' zs.length c') ∧ CellsAt (Value.int .u8) 0 w' a' zs ∧ zs.length ≤ c' ∧ Below w.heap.size w w' := by
  obtain ⟨i0, hi, hz0, hz1, hz2⟩ := info_parts Try.info5
  have qn : ∀ (w : World) (a : Option Addr) (n c n' c' : Nat), (binOp .eql 22 (.slice a n c) (.slice none n' c')).run Try.prog w = .ok (.bool a.isNone) w := fun w a n c n' c' => Lib.run_eql_slice_nil w _ _ a n c n' c' Try.underlying22
  by_cases ha : a.isNone = true
  · have h0 : zs.length = 0 := by
      rcases Nat.eq_zero_or_pos zs.length with h | h
      · exact h
      · obtain ⟨b, off, rfl, _⟩ := hc h; simp at ha
    go_enter Try.func9, Try.ntmps9
    go_wp2
    go_ret
    exact ⟨none, 0, by simp [h0], (fun h => by omega), by omega, Below.refl _ _⟩
  · have ha' : a.isNone = false := eq_false_of_ne_true ha
    clear ha
    go_enter Try.func9, Try.ntmps9
    go_wp2_with (at_make; refine wpList_make_full _ rfl _ _ 22 rfl w.heap.size 5 i0 (.int .u8 0) 1 Try.underlying22 hi hz0 hz1 .i64 .i64 _ _ zs.length rfl rfl rfl rfl (by rw [hz2]; omega) (by unfold maxLen; omega) (Nat.le_refl _) ?_; intro w1 hown hgr)
    go_loopw [4] (fun i wr => ∃ k : Nat, k ≤ zs.length ∧ i = .int .i64 k ∧ Below w.heap.size w wr ∧ RowPart (Value.int .u8) 0 wr w.heap.size 5 zs k) (fun i _ => zs.length - (intOf i).toNat)
    case atStart => exact ⟨0, Nat.zero_le _, rfl, (Below.refl _ _).grown hgr (Nat.le_refl _) (fun k h => by cases h), rowPart_made hown⟩
    case round =>
      obtain ⟨k, hk, rfl, hb, hrow⟩ := hrel
      by_cases hlt : k < zs.length
      · obtain ⟨b, off, rfl, hcc⟩ := hc (by omega)
        have hc1 : wr.cell? ⟨b, off + k, none⟩ = some ((Value.int .u8) (zs.getD k 0)) := hcell_below hb (hcc k hlt)
        obtain ⟨v0, hc2⟩ := hrow.cell hlt
        have hf2 := hrow.free k
        go_wp2
        go_roundw
        case rel => exact ⟨k + 1, by omega, by go_num, hb.setCell (Nat.le_refl _) _, hrow.store hlt _ (by simp [hlt])⟩
        case measure => simp [intOf]; omega
      · go_wp2
        go_ret
        exact ⟨_, _, rfl, (hrow.full (by omega)), Nat.le_refl _, hb⟩

/-- A transport stream, plainly: two packets at least, a sync byte at every packet's head. -/
def TS (zs : List Int) : Prop := 376 ≤ zs.length ∧ ∀ i, i * 188 < zs.length → zs.getD (i * 188) 0 = 71

theorem TS.prefix_ {zs : List Int} (h : TS zs) {n : Nat} (h1 : 376 ≤ n) (h2 : n ≤ zs.length) : TS (zs.take n) := by
  refine ⟨by simp; omega, fun i hi => ?_⟩
  have hi' : i * 188 < n := by simp at hi; omega
  have := h.2 i (by omega)
  have e : (zs.take n).getD (i * 188) 0 = zs.getD (i * 188) 0 := by
    simp only [List.getD, List.getElem?_take]
    rw [if_pos hi']
  rw [e]; exact this

/-- 'It answers whether zs is a transport stream; the world stands.' -/
def TSPost (zs : List Int) (w : World) (e : Ending) (w' : World) : Prop := ∃ b, e = .returned (.bool b) ∧ (b = true ↔ TS zs) ∧ w' = w
theorem TSPost.ff {zs : List Int} {w : World} (h : ¬ TS zs) : TSPost zs w (.returned (.bool false)) w := ⟨false, rfl, ⟨(fun h => by cases h), fun h' => absurd h' h⟩, rfl⟩
theorem TSPost.tt {zs : List Int} {w : World} (h : TS zs) : TSPost zs w (.returned (.bool true)) w := ⟨true, rfl, ⟨fun _ => h, fun _ => rfl⟩, rfl⟩

set_option maxRecDepth 100000 in
set_option maxHeartbeats 400000 in
theorem isTS_any (w : World) (a : Option Addr) (n cap : Nat) (zs : List Int) (hn : zs.length = n) (hc : CellsAt (.int .u8) 0 w a zs) (hl : n ≤ 1048576) :
    Calls Try.prog 19 #[.slice a n cap] w (TSPost zs w) := by
  subst hn
  by_cases h376 : zs.length < 376
  · go_enter Try.func19, Try.ntmps19
    go_wp2
    go_ret
    exact TSPost.ff (fun h => by have := h.1; omega)
  · obtain ⟨b, off, rfl, hcc⟩ := hc (by omega)
    clear hc
    go_enter Try.func19, Try.ntmps19
    go_wp2
    go_loop [2, 3] (fun _ t => ∃ k : Nat, k * 188 ≤ zs.length + 188 ∧ t = .int .i64 ((k * 188 : Nat) : Int) ∧ ∀ j, j < k → zs.getD (j * 188) 0 = 71) (fun _ t => zs.length + 188 - (intOf t).toNat)
    case atStart => exact ⟨0, by omega, rfl, fun j hj => by omega⟩
    case round =>
      obtain ⟨k, hk, rfl, hno⟩ := hrel
      have HN := (show Hid _ from hno); clear hno
      generalize hm : k * 188 = m at *
      have HM := (show Hid _ from hm); clear hm
      by_cases hlt : m < zs.length
      · have hc1 := hcc m hlt
        go_wp2
        · go_ret
          have he : (zs[m] != 71) = true := by assumption
          refine TSPost.ff (fun h => ?_)
          have := h.2 k (by rw [HM.out]; exact hlt)
          rw [HM.out] at this
          simp [List.getD, hlt] at this
          simp [this] at he
        · go_round
          case rel =>
            have he : (zs[m] != 71) = false := by assumption
            refine ⟨k + 1, by have := HM.out; omega, by have := HM.out; go_num, fun j hj => ?_⟩
            rcases Nat.lt_succ_iff_lt_or_eq.1 hj with h | h
            · exact HN.out j h
            · subst h
              rw [HM.out]
              simp [List.getD, hlt]
              simpa using he
          case measure => simp [intOf]; omega
      · go_wp2
        go_ret
        refine TSPost.tt ⟨by omega, fun i hi => HN.out i ?_⟩
        have := HM.out
        omega

theorem zzTS_any (w : World) (a : Option Addr) (n cap : Nat) (zs : List Int) (hn : zs.length = n) (hc : CellsAt (.int .u8) 0 w a zs) (hl : n ≤ 1048576) :
    Calls Try.prog 14 #[.slice a n cap] w (TSPost zs w) := by
  go_enter Try.func14, Try.ntmps14
  go_wp2_with fail
  refine (isTS_any w a n cap zs hn hc hl).mono ?_
  rintro e w1 ⟨b, rfl, hb, rfl⟩
  go_wp2
  go_ret
  exact ⟨b, rfl, hb, rfl⟩

set_option maxRecDepth 100000 in
theorem zzBytes_any (w : World) (a : Option Addr) (n cap : Nat) (m : Int) (hl : n ≤ 1048576) : Calls Try.prog 16 #[.slice a n cap, .int .i64 m] w fun e w' => e = .returned (.bool true) ∧ w' = w := by
  go_enter Try.func16, Try.ntmps16
  go_wp2
  go_ret
  exact ⟨rfl, rfl⟩
set_option maxRecDepth 100000 in
theorem zzBytes_no (w : World) (a : Option Addr) (n cap : Nat) (m : Int) (hl : ¬ n ≤ 1048576) : Calls Try.prog 16 #[.slice a n cap, .int .i64 m] w fun e w' => e = .returned (.bool false) ∧ w' = w := by
  go_enter Try.func16, Try.ntmps16
  go_wp2
  go_ret
  exact ⟨rfl, rfl⟩

set_option maxRecDepth 100000 in
set_option maxHeartbeats 1000000 in
theorem law_walk (a0 : Option Addr) (cap0 : Nat) (zs : List Int) (n : Int) (w : World) (hc : CellsAt (.int .u8) 0 w a0 zs) :
    Calls Try.prog 6 #[.slice a0 zs.length cap0, .int .i64 n] w fun e w' => e = .returned (.bool true) ∧ Below w.heap.size w w' := by
  by_cases h20 : zs.length ≤ 1048576
  · by_cases hn1 : n < 376
    · go_enter Try.func6, Try.ntmps6
      go_wp2_with (go_at_call 16; refine (zzBytes_any w _ _ _ _ h20).mono ?_; rintro e w' ⟨rfl, rfl⟩)
      go_ret
      exact ⟨rfl, Below.refl _ _⟩
    · by_cases hn2 : (zs.length : Int) < n
      · go_enter Try.func6, Try.ntmps6
        go_wp2_with (go_at_call 16; refine (zzBytes_any w _ _ _ _ h20).mono ?_; rintro e w' ⟨rfl, rfl⟩)
        go_ret
        exact ⟨rfl, Below.refl _ _⟩
      · obtain ⟨m, rfl⟩ : ∃ m : Nat, n = m := ⟨n.toNat, by omega⟩
        have hm1 : m ≤ zs.length := by omega
        have hm2 : 376 ≤ m := by omega
        go_enter Try.func6, Try.ntmps6
        go_wp2_with fail
        refine (zzBytes_any w _ _ _ _ h20).mono ?_
        rintro e w' ⟨rfl, rfl⟩
        go_wp2_with fail
        refine (copyBytes_any w' a0 cap0 zs hc (by omega)).mono ?_
        rintro e w1 ⟨a1, c1, rfl, hc1, hcap, hb1⟩
        have hmc : m ≤ c1 := by omega
        obtain ⟨g, o, rfl, hcc⟩ := hc1 (by omega)
        go_wp2_with fail
        refine (zzTS_any w1 _ _ _ zs rfl (fun _ => ⟨g, o, rfl, hcc⟩) h20).mono ?_
        rintro e w2 ⟨b, rfl, hb, rfl⟩
        cases b with
        | false => go_wp2; go_ret; exact ⟨rfl, hb1⟩
        | true =>
          have hts := hb.1 rfl
          have hlen : (zs.take m).length = m := by simp; omega
          have hpre := hts.prefix_ hm2 hm1
          have HT := (show Hid _ from hts); clear hts hb
          have hcT : CellsAt (Value.int .u8) 0 w2 (some ⟨g, o, none⟩) (zs.take m) := fun _ => ⟨g, o, rfl, fun i hi => by
            rw [hcc i (by omega)]
            have : (zs.take m).getD i 0 = zs.getD i 0 := by
              simp only [List.getD, List.getElem?_take]
              rw [if_pos (by omega)]
            rw [this]⟩
          go_wp2_with fail
          refine (zzTS_any w2 (some ⟨g, o, none⟩) m c1 (zs.take m) hlen hcT (by omega)).mono ?_
          rintro e w3 ⟨b, rfl, hb, rfl⟩
          have hbt := hb.2 hpre
          subst hbt
          go_wp2
          go_ret
          exact ⟨rfl, hb1⟩
  · go_enter Try.func6, Try.ntmps6
    go_wp2_with (go_at_call 16; refine (zzBytes_no w _ _ _ _ h20).mono ?_; rintro e w' ⟨rfl, rfl⟩)
    go_ret
    exact ⟨rfl, Below.refl _ _⟩

end Go.Proofs.Qxb6603128a
