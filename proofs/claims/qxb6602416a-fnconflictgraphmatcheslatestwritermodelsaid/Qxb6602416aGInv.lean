import Derived.Test.Qxb6602416aNodes
import Derived.Test.Qxb6602416aEdge
import Derived.Test.Qxb6602416aPlain2
namespace Go.Proofs.Qxb6602416a
open Go.RowKit
set_option linter.unusedVariables false

/-- One op of a history: (txn, item, value, from, kind, versioned). -/
structure OpR where
  txn : Int
  item : ByteArray
  value : ByteArray
  frm : Int
  kind : Int
  ver : Bool
def opZero : OpR := ⟨0, ByteArray.empty, ByteArray.empty, 0, 0, false⟩
/-- The ops of a history in memory, at block O. -/
def OpsAt (w : World) (O : Nat) (ops : List OpR) : Prop :=
  ∀ i, i < ops.length → w.cell? ⟨O, i * 6, none⟩ = some (.int .i64 (ops.getD i opZero).txn) ∧ w.cell? ⟨O, i * 6 + 1, none⟩ = some (.string (ops.getD i opZero).item) ∧ w.cell? ⟨O, i * 6 + 2, none⟩ = some (.string (ops.getD i opZero).value) ∧
    w.cell? ⟨O, i * 6 + 3, none⟩ = some (.int .i64 (ops.getD i opZero).frm) ∧ w.cell? ⟨O, i * 6 + 4, none⟩ = some (.int .u8 (ops.getD i opZero).kind) ∧ w.cell? ⟨O, i * 6 + 5, none⟩ = some (.bool (ops.getD i opZero).ver)

theorem mget_nmap (ids : List Int) (x : Int) : mget (nmap ids) x = (Plain.lastIdx ids x).map (fun i : Nat => Value.int .i64 (i : Int)) := by
  have key : ∀ (r : List Int), mget (nmap r.reverse) x = (Plain.lastIdx r.reverse x).map (fun i : Nat => Value.int .i64 (i : Int)) := by
    intro r
    induction r with
    | nil => simp [nmap, nmapAux, mget, Plain.lastIdx]
    | cons y r ih =>
      rw [List.reverse_cons, nmap_snoc, Plain.lastIdx_snoc]
      by_cases h : y = x
      · subst h; rw [mget_put_same, if_pos rfl]; rfl
      · rw [mget_put_other _ _ _ _ h, if_neg h, ih]
  have := key ids.reverse
  rwa [List.reverse_reverse] at this

/-- The items' accesses in memory. -/
structure Acc (own : Nat → Tag) (w : World) (l : List (ByteArray × Value)) (adr : ByteArray → Nat) (st : ByteArray → Option (Int × List Int)) : Prop where
  none_ : ∀ s, st s = none → mget l s = none
  some_ : ∀ s a, st s = some a → mget l s = some (.pointer (some ⟨adr s, 0, none⟩)) ∧ own (adr s) = (5, adr s) ∧ ∃ rv, w.heap[adr s]? = some (.cells #[.int .i64 a.1, rv] 70 (0, 0)) ∧ RowT own w (6, adr s) rv a.2
  inj : ∀ s s' a a', st s = some a → st s' = some a' → adr s = adr s' → s = s'

theorem Acc.fr {may : Tag → Prop} {o1 o2 : Nat → Tag} {w1 w2 : World} {l : List (ByteArray × Value)} {adr : ByteArray → Nat} {st : ByteArray → Option (Int × List Int)} (h : Acc o1 w1 l adr st) (hf : Fr may o1 o2 w1 w2)
    (h5 : ∀ i, ¬ may (5, i)) (h6 : ∀ i, ¬ may (6, i)) : Acc o2 w2 l adr st := by
  refine ⟨h.none_, fun s a hs => ?_, h.inj⟩
  obtain ⟨h1, h2, rv, h3, h4⟩ := h.some_ s a hs
  exact ⟨h1, by rw [hf.tags _ (lt_of_heap h3), h2], rv, hf.heap h3 (by rw [h2]; exact h5 _), h4.fr hf (h6 _)⟩

/-- What holds at the head of each round of conflictGraph's loop. -/
structure CG (w wr : World) (G S Pd I M : Nat) (ids : List Int) (v0 : Value) (own : Nat → Tag) (l : List (ByteArray × Value)) (adr : ByteArray → Nat) (s : Plain.GS) : Prop where
  fr : Fr (fun t => t.1 ≠ 0) (fun _ => (0, 0)) own w wr
  gr : Gr own wr G S Pd ids.length s.E v0 (.map (some M))
  map : MapAt (Value.int .i64) wr M (nmap ids)
  mapT : own M = (0, 0)
  its : MapAt Value.string wr I l
  itsT : own I = (4, 0)
  acc : Acc own wr l adr s.st

/-- A step that writes only what 'may' names (no item's, no graph's block), seen by the whole. -/
theorem CG.keep {w wr w2 : World} {G S Pd I M : Nat} {ids : List Int} {v0 : Value} {own o2 : Nat → Tag} {l : List (ByteArray × Value)} {adr : ByteArray → Nat} {s : Plain.GS} (h : CG w wr G S Pd I M ids v0 own l adr s)
    (hf : Fr (fun _ => False) own o2 wr w2) : CG w w2 G S Pd I M ids v0 o2 l adr s :=
  ⟨h.fr.trans (hf.mono (fun _ x => x.elim)), h.gr.fr hf (fun x => x) (fun _ _ x => x), h.map.fr hf (fun x => x), by rw [hf.tags M h.map.lt, h.mapT], h.its.fr hf (fun x => x), by rw [hf.tags I h.its.lt, h.itsT], h.acc.fr hf (fun _ x => x) (fun _ x => x)⟩

/-- addEdge, seen by the whole. -/
theorem CG.edge {w wr w2 : World} {G S Pd I M : Nat} {ids : List Int} {v0 : Value} {own o2 : Nat → Tag} {l : List (ByteArray × Value)} {adr : ByteArray → Nat} {s : Plain.GS} (h : CG w wr G S Pd I M ids v0 own l adr s)
    (hf : Fr (fun t => t.1 = 1 ∨ t.1 = 2 ∨ t.1 = 3) own o2 wr w2) {E : List (Nat × Nat)} (hg : Gr o2 w2 G S Pd ids.length E v0 (.map (some M))) : CG w w2 G S Pd I M ids v0 o2 l adr ⟨E, s.st⟩ :=
  ⟨h.fr.trans (hf.mono (fun t ht => by omega)), hg, h.map.fr hf (by rw [h.mapT]; simp), by rw [hf.tags M h.map.lt, h.mapT], h.its.fr hf (by rw [h.itsT]; simp), by rw [hf.tags I h.its.lt, h.itsT], h.acc.fr hf (by simp) (by simp)⟩

theorem Array_two_set0 (x y v : Value) : (#[x, y] : Array Value).setIfInBounds 0 v = #[v, y] := rfl
theorem Array_two_set1 (x y v : Value) : (#[x, y] : Array Value).setIfInBounds 1 v = #[x, v] := rfl

/-- The item's access is written: its writer and its readers (row tagged (6, adr item)). w1: behind the change to the readers' row; then the two cells hold x and rv. -/
theorem CG.write {w wr w1 w2 : World} {G S Pd I M : Nat} {ids : List Int} {v0 : Value} {own o2 : Nat → Tag} {l : List (ByteArray × Value)} {adr : ByteArray → Nat} {s : Plain.GS} {item : ByteArray} {a b : Int × List Int} {rv : Value}
    (h : CG w wr G S Pd I M ids v0 own l adr s) (ha : s.st item = some a) (hf : Fr (fun t => t = (6, adr item)) own o2 wr w1) (hf2 : Fr (fun t => t = (5, adr item)) o2 o2 w1 w2)
    (hcell : w2.heap[adr item]? = some (.cells #[.int .i64 b.1, rv] 70 (0, 0))) (hrow : RowT o2 w1 (6, adr item) rv b.2) : CG w w2 G S Pd I M ids v0 o2 l adr (s.set s.E item b) := by
  have F := (hf.mono (may' := fun t => t = (6, adr item) ∨ t = (5, adr item)) (fun t ht => .inl ht)).trans (hf2.mono (fun t ht => .inr ht))
  refine ⟨h.fr.trans (F.mono (fun t ht => by rcases ht with rfl | rfl <;> simp)), h.gr.fr F (by simp) (fun t ht hm => by rcases hm with rfl | rfl <;> simp at ht), h.map.fr F (by rw [h.mapT]; simp), by rw [F.tags M h.map.lt, h.mapT], h.its.fr F (by rw [h.itsT]; simp), by rw [F.tags I h.its.lt, h.itsT], ?_⟩
  refine ⟨fun x hx => ?_, fun x c hx => ?_, fun x x' c c' hx hx' he => ?_⟩
  · simp only [Plain.GS.set] at hx
    split at hx
    · cases hx
    · exact h.acc.none_ x hx
  · simp only [Plain.GS.set] at hx
    split at hx
    · rename_i e; subst e
      cases hx
      obtain ⟨h1, h2, rv0, h3, h4⟩ := h.acc.some_ x a ha
      exact ⟨h1, by rw [F.tags _ (lt_of_heap h3), h2], rv, hcell, hrow.fr hf2 (by simp)⟩
    · rename_i e
      obtain ⟨h1, h2, rv0, h3, h4⟩ := h.acc.some_ x c hx
      have hne : adr x ≠ adr item := fun he => e (h.acc.inj x item c a hx ha he)
      exact ⟨h1, by rw [F.tags _ (lt_of_heap h3), h2], rv0, F.heap h3 (by rw [h2]; simp [hne]), h4.fr F (by simp [hne])⟩
  · have k : ∀ y c, (s.set s.E item b).st y = some c → ∃ c', s.st y = some c' := fun y c hy => by
      simp only [Plain.GS.set] at hy
      split at hy
      · rename_i e; subst e; exact ⟨a, ha⟩
      · exact ⟨c, hy⟩
    obtain ⟨d, hd⟩ := k x c hx
    obtain ⟨d', hd'⟩ := k x' c' hx'
    exact h.acc.inj x x' d d' hd hd' he

/-- A new item: its access is laid at the heap's end, and stored in the map. -/
theorem CG.fresh {w wr w1 : World} {G S Pd I M : Nat} {ids : List Int} {v0 : Value} {own : Nat → Tag} {l : List (ByteArray × Value)} {adr : ByteArray → Nat} {s : Plain.GS} {item : ByteArray}
    (h : CG w wr G S Pd I M ids v0 own l adr s) (ha : s.st item = none) (hg : (wr.alloc (.cells #[.int .i64 (-1), .slice none 0 0] 70)).grownBy w1 (some I))
    (hm : MapAt Value.string w1 I (mput l item (.pointer (some ⟨wr.heap.size, 0, none⟩)))) :
    ∃ o2 adr2, adr2 item = wr.heap.size ∧ CG w w1 G S Pd I M ids v0 o2 (mput l item (.pointer (some ⟨wr.heap.size, 0, none⟩))) adr2 (s.set s.E item (-1, [])) ∧ Fr (fun t => t = (4, 0)) own o2 wr w1 := by
  have hIl := h.its.lt
  have F0 := (Fr.refl (fun t => t = (4, 0)) own wr).alloc (.cells #[.int .i64 (-1), .slice none 0 0] 70) (5, wr.heap.size)
  have hIt : (fun b => if b = wr.heap.size then ((5, wr.heap.size) : Tag) else own b) I = (4, 0) := by
    show (if I = wr.heap.size then _ else own I) = _
    rw [if_neg (by omega), h.itsT]
  have F := F0.trans (grown_fr hg hIt)
  have hnew : w1.heap[wr.heap.size]? = some (.cells #[.int .i64 (-1), .slice none 0 0] 70 (0, 0)) := by
    rw [hg.block wr.heap.size (by simp) (by simp; omega)]
    exact heap_alloc_new wr _
  refine ⟨_, fun x => if x = item then wr.heap.size else adr x, if_pos rfl, ⟨h.fr.trans (F.mono (fun t ht => by rw [ht]; simp)), h.gr.fr F (by simp) (fun t ht hm => by rw [hm] at ht; simp at ht), h.map.fr F (by rw [h.mapT]; simp), by rw [F.tags M h.map.lt, h.mapT], hm, hIt, ?_⟩, F⟩
  refine ⟨fun x hx => ?_, fun x c hx => ?_, fun x x' c c' hx hx' he => ?_⟩
  · simp only [Plain.GS.set] at hx
    split at hx
    · cases hx
    · rename_i e
      rw [mget_put_other _ _ _ _ (Ne.symm e)]; exact h.acc.none_ x hx
  · simp only [Plain.GS.set] at hx
    split at hx
    · rename_i e; subst e
      cases hx
      refine ⟨by rw [mget_put_same, if_pos rfl], ?_, .slice none 0 0, by rw [if_pos rfl]; exact hnew, RowT.nil _ _ _⟩
      simp
    · rename_i e
      obtain ⟨h1, h2, rv0, h3, h4⟩ := h.acc.some_ x c hx
      have hlt := lt_of_heap h3
      refine ⟨by rw [mget_put_other _ _ _ _ (Ne.symm e), h1, if_neg e], by rw [if_neg e, F.tags _ hlt, h2], rv0, by rw [if_neg e]; exact F.heap h3 (by rw [h2]; simp), by rw [if_neg e]; exact h4.fr F (by simp)⟩
  · simp only [Plain.GS.set] at hx hx'
    split at hx <;> split at hx' <;> rename_i e e'
    · rw [e, e']
    · obtain ⟨_, _, _, h3, _⟩ := h.acc.some_ x' c' hx'
      have := lt_of_heap h3
      rw [if_pos e, if_neg e'] at he; omega
    · obtain ⟨_, _, _, h3, _⟩ := h.acc.some_ x c hx
      have := lt_of_heap h3
      rw [if_neg e, if_pos e'] at he; omega
    · rw [if_neg e, if_neg e'] at he
      exact h.acc.inj x x' c c' hx hx' he

end Go.Proofs.Qxb6602416a
