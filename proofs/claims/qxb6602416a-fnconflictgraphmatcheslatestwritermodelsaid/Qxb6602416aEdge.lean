import Derived.Test.Qxb6602416aHeap
import Derived.Test.Qxb6602416aPlain
import Derived.Deep.RegionLaw
import Derived.Deep.DeepCutAuto
namespace Go.Proofs.Qxb6602416a
open Go.RowKit
set_option linter.unusedVariables false

theorem mid_far {own : Nat → Tag} {w w1 : World} {o : Obj} {p : Addr} {u v : Value} {c k : Nat} {xs : List Int} (hp : w.cell? p = some u) (ho : own p.block = (0, 0)) (hrow : RowT own w (2 + c, k) v xs)
    (hgrow : (w.alloc o).drew.grownBy w1 v.ownBlock) : w1.cell? p = some u := by
  have hl := World.block_lt_of_cell? w p hp
  have e : w1.heap[p.block]? = w.heap[p.block]? := by
    rw [hgrow.block p.block (by show p.block < (w.alloc o).heap.size; simp; omega) (fun e => by have := hrow.2 _ e.symm; rw [ho] at this; simp only [Prod.mk.injEq] at this; omega)]
    exact Below.heap_alloc w o p.block hl
  rw [World.cell?_of_block e]; exact hp
theorem mid_heap {own : Nat → Tag} {w w1 : World} {o : Obj} {S : Nat} {cs : Array Value} {v : Value} {c k : Nat} {xs : List Int} (hh : w.heap[S]? = some (.cells cs 22 (0, 0))) (hS : own S = (1, c)) (hrow : RowT own w (2 + c, k) v xs)
    (hgrow : (w.alloc o).drew.grownBy w1 v.ownBlock) : w1.heap[S]? = some (.cells cs 22 (0, 0)) := by
  have hl := lt_of_heap hh
  rw [hgrow.block S (by show S < (w.alloc o).heap.size; simp; omega) (fun e => by have := hrow.2 _ e.symm; rw [hS] at this; simp only [Prod.mk.injEq] at this; omega)]
  rw [← hh]
  exact Below.heap_alloc w o S hl
theorem mid_cell {own : Nat → Tag} {w w1 : World} {o : Obj} {S : Nat} {cs : Array Value} {v : Value} {c k : Nat} {xs : List Int} (hh : w.heap[S]? = some (.cells cs 22 (0, 0))) (hv : cs[k]? = some v) (hS : own S = (1, c)) (hrow : RowT own w (2 + c, k) v xs)
    (hgrow : (w.alloc o).drew.grownBy w1 v.ownBlock) : w1.cell? ⟨S, k, none⟩ = some v := by
  simp [World.cell?, mid_heap hh hS hrow hgrow, hv]
theorem mid_free {own : Nat → Tag} {w w1 : World} {o : Obj} {S : Nat} {cs : Array Value} {v : Value} {c k : Nat} {xs : List Int} (hh : w.heap[S]? = some (.cells cs 22 (0, 0))) (hS : own S = (1, c)) (hrow : RowT own w (2 + c, k) v xs)
    (hgrow : (w.alloc o).drew.grownBy w1 v.ownBlock) : w1.frozen? ⟨S, k, none⟩ = false := by
  simp [World.frozen?, mid_heap hh hS hrow hgrow]

set_option maxHeartbeats 1000000 in
theorem addEdge_add (own : Nat → Tag) (w : World) (G S Pd n x y : Nat) (f h : Nat → List Int) (i0v i1v : Value)
    (hG : w.heap[G]? = some (.cells #[i0v, i1v, .slice (some ⟨S, 0, none⟩) n n, .slice (some ⟨Pd, 0, none⟩) n n] 65 (0, 0))) (hGo : own G = (0, 0))
    (hf : Rows2 own w 0 S n f) (hh : Rows2 own w 1 Pd n h) (hx : x < n) (hy : y < n) (hxy : x ≠ y) (hfl : (f x).length ≤ 100000000) (hhl : (h y).length ≤ 100000000) :
    Calls Try.prog 28 #[.pointer (some ⟨G, 0, none⟩), .int .i64 x, .int .i64 y] w fun e w' =>
      ∃ own', e = .returned (.tuple #[]) ∧ Fr (fun t => t.1 = 1 ∨ t.1 = 2 ∨ t.1 = 3) own own' w w' ∧ Rows2 own' w' 0 S n (upd f x (f x ++ [(y : Int)])) ∧ Rows2 own' w' 1 Pd n (upd h y (h y ++ [(x : Int)])) := by
  obtain ⟨i0, hi, hz0, hz1, hz2⟩ := info_parts Try.info3
  have hne : ((x : Int) != (y : Int)) = true := by simp; omega
  have hg2 : w.cell? ⟨G, 2, none⟩ = some (.slice (some ⟨S, 0, none⟩) n n) := by simp [World.cell?, hG]
  have hg3 : w.cell? ⟨G, 3, none⟩ = some (.slice (some ⟨Pd, 0, none⟩) n n) := by simp [World.cell?, hG]
  obtain ⟨hS, cs, hSh, hcs, hr⟩ := hf
  obtain ⟨v, hv, hrow⟩ := hr x hx
  have hvc : w.cell? ⟨S, x, none⟩ = some v := by simp [World.cell?, hSh, hv]
  have ha1 : ∀ o, (w.alloc o).cell? ⟨S, x, none⟩ = some v := fun o => (World.cell?_alloc_lt w o _ (World.block_lt_of_cell? w _ hvc)).trans hvc
  have ha2 : ∀ o, (w.alloc o).cell? ⟨G, 2, none⟩ = some (.slice (some ⟨S, 0, none⟩) n n) := fun o => (World.cell?_alloc_lt w o _ (World.block_lt_of_cell? w _ hg2)).trans hg2
  go_enter Try.func28, Try.ntmps28
  go_wp2
  go_cut [27] (fun _ wc => ∃ own1, Fr (fun t => t = (1, 0) ∨ t.1 = 2 + 0) own own1 w wc ∧ Rows2 own1 wc 0 S n (upd f x (f x ++ [(y : Int)])))
  case first =>
    have hf2 : Rows2 own w 0 S n f := ⟨hS, cs, hSh, hcs, hr⟩
    go_region_law (refine step_append_lies _ rfl _ _ 22 rfl 0 3 i0 (.int .i64 0) 1 8 Try.underlying22 hi hz0 hz1 hz2 rfl (by decide) v (f x).length ((f x).map (Value.int .i64)) rfl (by exact hrow.1.alloc _) ⟨w.heap.size, 0, none⟩ 1 1 [.int .i64 (y : Int)] rfl rfl (by exact cell_one_new _ _ _) (ints_oneCell .i64 [(y : Int)]) (by decide) (by unfold maxLen; omega) (by omega) (Nat.zero_le _) (w.heap.size + 1) (by simp) ?_; intro g cap w1 hown hgrow hat hlt; have hst1 : w1.cell? ⟨S, x, none⟩ = some v := mid_cell hSh hv hS hrow hgrow; have hst2 : w1.frozen? ⟨S, x, none⟩ = false := mid_free hSh hS hrow hgrow; have hst3 : w1.cell? ⟨G, 2, none⟩ = some (.slice (some ⟨S, 0, none⟩) n n) := mid_far hg2 hGo hrow hgrow)
    all_goals (go_wp2_with fail; go_meet; exact hf2.push hx hvc ((Fr.refl _ _ _).alloc0 _).drew (by exact hown) (by exact hgrow) (by simpa using hat))
  case rest =>
    obtain ⟨own1, F1, R1⟩ := hcut
    have hg3' : wc.cell? ⟨G, 3, none⟩ = some (.slice (some ⟨Pd, 0, none⟩) n n) := F1.cell hg3 (by rw [hGo]; simp)
    have hGo1 : own1 G = (0, 0) := by rw [F1.tags G (lt_of_heap hG), hGo]
    have hh1 : Rows2 own1 wc 1 Pd n h := hh.fr F1 (by simp) (by simp)
    clear hr hrow hv hvc ha1 ha2 hg2 hg3 hSh hG hS hcs hGo hh
    have hh2 := hh1
    obtain ⟨hP, ps, hPh, hps, hrp⟩ := hh1
    obtain ⟨u, hu, hrowu⟩ := hrp y hy
    have huc : wc.cell? ⟨Pd, y, none⟩ = some u := by simp [World.cell?, hPh, hu]
    have hb1 : ∀ o, (wc.alloc o).cell? ⟨Pd, y, none⟩ = some u := fun o => (World.cell?_alloc_lt wc o _ (World.block_lt_of_cell? wc _ huc)).trans huc
    have hb2 : ∀ o, (wc.alloc o).cell? ⟨G, 3, none⟩ = some (.slice (some ⟨Pd, 0, none⟩) n n) := fun o => (World.cell?_alloc_lt wc o _ (World.block_lt_of_cell? wc _ hg3')).trans hg3'
    go_wp2_with fail
    go_region_law (refine step_append_lies _ rfl _ _ 22 rfl 0 3 i0 (.int .i64 0) 1 8 Try.underlying22 hi hz0 hz1 hz2 rfl (by decide) u (h y).length ((h y).map (Value.int .i64)) rfl (by exact hrowu.1.alloc _) ⟨wc.heap.size, 0, none⟩ 1 1 [.int .i64 (x : Int)] rfl rfl (by exact cell_one_new _ _ _) (ints_oneCell .i64 [(x : Int)]) (by decide) (by unfold maxLen; omega) (by omega) (Nat.zero_le _) (wc.heap.size + 1) (by simp) ?_; intro g cap w1 hown hgrow hat hlt; have hst1 : w1.cell? ⟨Pd, y, none⟩ = some u := mid_cell hPh hu hP hrowu hgrow; have hst2 : w1.frozen? ⟨Pd, y, none⟩ = false := mid_free hPh hP hrowu hgrow; have hst3 : w1.cell? ⟨G, 3, none⟩ = some (.slice (some ⟨Pd, 0, none⟩) n n) := mid_far hg3' hGo1 hrowu hgrow)
    all_goals (go_wp2_with fail; go_end0; obtain ⟨own2, F2, R2⟩ := hh2.push hy huc ((Fr.refl _ _ _).alloc0 _).drew (by exact hown) (by exact hgrow) (by simpa using hat); exact ⟨own2, rfl, (F1.mono (fun t ht => by rcases ht with rfl | h; exact .inl rfl; exact .inr (.inl h))).trans (F2.mono (fun t ht => by rcases ht with rfl | h; exact .inl rfl; exact .inr (.inr h))), R1.fr F2 (by simp) (by simp), R2⟩)

set_option maxHeartbeats 400000 in
theorem addEdge_skip (w : World) (G : Nat) (x y : Int) (h : x < 0 ∨ x = y) :
    Calls Try.prog 28 #[.pointer (some ⟨G, 0, none⟩), .int .i64 x, .int .i64 y] w fun e w' => e = .returned (.tuple #[]) ∧ w = w' := by
  by_cases h0 : x < 0
  · go_enter Try.func28, Try.ntmps28
    go_wp2
    go_end0
    exact ⟨rfl, rfl⟩
  · have h1 : (x != y) = false := by simp; omega
    go_enter Try.func28, Try.ntmps28
    go_wp2
    go_end0
    exact ⟨rfl, rfl⟩

/-- The graph in memory: E: its edges in the order in which they were added. -/
structure Gr (own : Nat → Tag) (w : World) (G S Pd n : Nat) (E : List (Nat × Nat)) (v0 v1 : Value) : Prop where
  at_ : w.heap[G]? = some (.cells #[v0, v1, .slice (some ⟨S, 0, none⟩) n n, .slice (some ⟨Pd, 0, none⟩) n n] 65 (0, 0))
  tag : own G = (0, 0)
  succ : Rows2 own w 0 S n (Plain.sOf E)
  pred : Rows2 own w 1 Pd n (Plain.pOf E)

theorem Gr.fr {may : Tag → Prop} {o1 o2 : Nat → Tag} {w1 w2 : World} {G S Pd n : Nat} {E : List (Nat × Nat)} {v0 v1 : Value} (h : Gr o1 w1 G S Pd n E v0 v1) (hf : Fr may o1 o2 w1 w2) (h0 : ¬ may (0, 0)) (hm : ∀ t : Tag, t.1 = 1 ∨ t.1 = 2 ∨ t.1 = 3 → ¬ may t) : Gr o2 w2 G S Pd n E v0 v1 :=
  ⟨hf.heap h.at_ (by rw [h.tag]; exact h0), by rw [hf.tags G (lt_of_heap h.at_), h.tag], h.succ.fr hf (hm _ (.inl rfl)) (fun i => hm _ (.inr (.inl rfl))), h.pred.fr hf (hm _ (.inl rfl)) (fun i => hm _ (.inr (.inr rfl)))⟩

theorem upd_sOf (E : List (Nat × Nat)) (x y : Nat) : upd (Plain.sOf E) x (Plain.sOf E x ++ [(y : Int)]) = Plain.sOf (E ++ [(x, y)]) := by
  funext i
  simp only [upd, Plain.sOf_snoc]
  by_cases h : i = x
  · subst h; simp
  · rw [if_neg h, if_neg (Ne.symm h), List.append_nil]
theorem upd_pOf (E : List (Nat × Nat)) (x y : Nat) : upd (Plain.pOf E) y (Plain.pOf E y ++ [(x : Int)]) = Plain.pOf (E ++ [(x, y)]) := by
  funext i
  simp only [upd, Plain.pOf_snoc]
  by_cases h : i = y
  · subst h; simp
  · rw [if_neg h, if_neg (Ne.symm h), List.append_nil]

/-- addEdge, at every pair of numbers. -/
theorem addEdge_any (own : Nat → Tag) (w : World) (G S Pd n : Nat) (E : List (Nat × Nat)) (v0 v1 : Value) (x : Int) (y : Nat)
    (hg : Gr own w G S Pd n E v0 v1) (hx : x < n) (hy : y < n) (hE : E.length ≤ 100000000) :
    Calls Try.prog 28 #[.pointer (some ⟨G, 0, none⟩), .int .i64 x, .int .i64 y] w fun e w' =>
      ∃ own', e = .returned (.tuple #[]) ∧ Fr (fun t => t.1 = 1 ∨ t.1 = 2 ∨ t.1 = 3) own own' w w' ∧ Gr own' w' G S Pd n (Plain.addE E x y) v0 v1 := by
  by_cases h : 0 ≤ x ∧ x ≠ y
  · obtain ⟨k, rfl⟩ : ∃ k : Nat, x = k := ⟨x.toNat, by omega⟩
    refine (addEdge_add own w G S Pd n k y _ _ v0 v1 hg.at_ hg.tag hg.succ hg.pred (by omega) hy (by omega) (Nat.le_trans (Plain.sOf_le E k) hE) (Nat.le_trans (Plain.pOf_le E y) hE)).mono ?_
    rintro e w' ⟨own', he, F, R1, R2⟩
    have e1 : Plain.addE E k y = E ++ [(k, y)] := by simp only [Plain.addE]; rw [if_pos h]; simp
    rw [upd_sOf] at R1
    rw [upd_pOf] at R2
    refine ⟨own', he, F, ?_⟩
    rw [e1]
    exact ⟨F.heap hg.at_ (by rw [hg.tag]; simp), by rw [F.tags G (lt_of_heap hg.at_), hg.tag], R1, R2⟩
  · refine (addEdge_skip w G x y (by omega)).mono ?_
    rintro e w' ⟨he, rfl⟩
    refine ⟨own, he, Fr.refl _ _ _, ?_⟩
    have e1 : Plain.addE E x y = E := by simp only [Plain.addE]; rw [if_neg h]
    rw [e1]; exact hg

end Go.Proofs.Qxb6602416a
