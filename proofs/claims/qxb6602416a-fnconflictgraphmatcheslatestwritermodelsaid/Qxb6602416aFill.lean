import Derived.Test.Qxb6602416aGraph
namespace Go.Proofs.Qxb6602416a
open Go.RowKit
set_option linter.unusedVariables false

theorem Try.info56 : (Try.prog.info? 56).map (fun i => (i.zero, i.size, i.bytes)) = some (some (.agg #[.int .i64 0, .string ByteArray.empty, .string ByteArray.empty, .int .i64 0, .int .u8 0, .bool false]), 6, 56) := by kernel_rfl
theorem Try.info59 : (Try.prog.info? 59).map (fun i => (i.zero, i.size, i.bytes)) = some (some (.agg #[.int .i64 0, .int .u8 0]), 2, 16) := by kernel_rfl

/-- A block of the call's own, with room for n structs of q cells, the first k of them filled: cell j of struct i is c i j. -/
def Filled (w : World) (b : Nat) (e : TypeId) (q n k : Nat) (c : Nat → Nat → Value) : Prop :=
  ∃ cur : Array Value, w.heap[b]? = some (.cells cur e (0, 0)) ∧ cur.size = n * q ∧ ∀ i j, i < k → j < q → cur[i * q + j]? = some (c i j)

theorem filled_made {w : World} {b : Nat} {e : TypeId} {q n : Nat} {c : Nat → Nat → Value} {base : Nat} {ys : List Value} (h : w.ownsRow base e q (.slice (some ⟨b, 0, none⟩) n n) n ys) : Filled w b e q n 0 c := by
  rcases h.2 with ⟨h', _⟩ | ⟨g', cap', cur, h', _, hg, _, _, hs, _⟩
  · simp at h'
  · simp only [Value.slice.injEq, Option.some.injEq, Addr.mk.injEq, and_true, true_and] at h'
    obtain ⟨rfl, rfl⟩ := h'
    exact ⟨cur, hg, hs, fun i j hi => by omega⟩

def opCell (o : OpR) : Nat → Value
  | 0 => .int .i64 o.txn
  | 1 => .string o.item
  | 2 => .string o.value
  | 3 => .int .i64 o.frm
  | 4 => .int .u8 o.kind
  | _ => .bool o.ver
def txnCell (t : Int × Int) : Nat → Value
  | 0 => .int .i64 t.1
  | _ => .int .u8 t.2

theorem Filled.cell {w : World} {b : Nat} {e : TypeId} {q n k : Nat} {c : Nat → Nat → Value} (h : Filled w b e q n k c) {i : Nat} (hi : i < n * q) : ∃ v, w.cell? ⟨b, i, none⟩ = some v := by
  obtain ⟨cur, hg, hs, _⟩ := h
  exact ⟨cur[i]'(by omega), by simp [World.cell?, hg, hs, hi]⟩
theorem Filled.free {w : World} {b : Nat} {e : TypeId} {q n k : Nat} {c : Nat → Nat → Value} (h : Filled w b e q n k c) (j : Nat) : w.frozen? ⟨b, j, none⟩ = false := by
  obtain ⟨cur, hg, hs, _⟩ := h
  simp [World.frozen?, hg]
theorem getD_map {α β : Type} (f : α → β) (l : List α) (i : Nat) (d : α) : (l.map f).getD i (f d) = f (l.getD i d) := by
  simp only [List.getD, List.getElem?_map]
  cases l[i]? <;> rfl

theorem idx_lt {i k q j m : Nat} (h : i < k) (hj : j < q) : i * q + j < k * q + m := by
  have h1 : (i + 1) * q ≤ k * q := Nat.mul_le_mul_right q h
  rw [Nat.succ_mul] at h1
  omega

/-- .. and of struct k the first m cells. -/
def FillP (w : World) (b : Nat) (e : TypeId) (q n k m : Nat) (c : Nat → Nat → Value) : Prop :=
  ∃ cur : Array Value, w.heap[b]? = some (.cells cur e (0, 0)) ∧ cur.size = n * q ∧ (∀ i j, i < k → j < q → cur[i * q + j]? = some (c i j)) ∧ ∀ j, j < m → cur[k * q + j]? = some (c k j)
theorem Filled.part {w : World} {b : Nat} {e : TypeId} {q n k : Nat} {c : Nat → Nat → Value} (h : Filled w b e q n k c) : FillP w b e q n k 0 c := by
  obtain ⟨cur, hg, hs, hc⟩ := h
  exact ⟨cur, hg, hs, hc, fun j hj => by omega⟩
theorem FillP.full {w : World} {b : Nat} {e : TypeId} {q n k : Nat} {c : Nat → Nat → Value} (h : FillP w b e q n k q c) : Filled w b e q n (k + 1) c := by
  obtain ⟨cur, hg, hs, hc, hp⟩ := h
  refine ⟨cur, hg, hs, fun i j hi hj => ?_⟩
  rcases Nat.lt_succ_iff_lt_or_eq.1 hi with h | h
  · exact hc i j h hj
  · subst h; exact hp j hj
theorem FillP.drew {w : World} {b : Nat} {e : TypeId} {q n k m : Nat} {c : Nat → Nat → Value} (h : FillP w b e q n k m c) : FillP w.drew b e q n k m c := h
theorem FillP.step {w : World} {b : Nat} {e : TypeId} {q n k m : Nat} {c : Nat → Nat → Value} (h : FillP w b e q n k m c) (hm : m < q) (hk : k < n) {x : Value} (hx : c k m = x) {o : Nat} (ho : o = k * q + m) : FillP (w.setCell ⟨b, o, none⟩ x) b e q n k (m + 1) c := by
  obtain ⟨cur, hg, hs, hc, hp⟩ := h
  subst ho
  refine ⟨cur.setIfInBounds (k * q + m) x, heap_setCell_same w b (k * q + m) cur e x hg, by simpa using hs, fun i j hi hj => ?_, fun j hj => ?_⟩
  · rw [Array.getElem?_setIfInBounds_ne (Nat.ne_of_gt (idx_lt hi hj))]
    exact hc i j hi hj
  · rcases Nat.lt_succ_iff_lt_or_eq.1 hj with h | h
    · rw [Array.getElem?_setIfInBounds_ne (by omega)]
      exact hp j h
    · subst h
      rw [Array.getElem?_setIfInBounds_self_of_lt (by rw [hs]; exact Nat.lt_of_lt_of_le (idx_lt (m := 0) hk hm) (Nat.le_refl _)), hx]
theorem heap_six (w : World) (b c i0 i1 i2 i3 i4 i5 : Nat) (x0 x1 x2 x3 x4 x5 : Value) (h : c ≠ b) :
    ((((((w.setCell ⟨b, i0, none⟩ x0).setCell ⟨b, i1, none⟩ x1).setCell ⟨b, i2, none⟩ x2).setCell ⟨b, i3, none⟩ x3).setCell ⟨b, i4, none⟩ x4).setCell ⟨b, i5, none⟩ x5).drew.heap[c]? = w.heap[c]? := by
  have e : ∀ W : World, W.drew.heap[c]? = W.heap[c]? := fun W => rfl
  rw [e, Below.heap_setCell _ _ _ _ h, Below.heap_setCell _ _ _ _ h, Below.heap_setCell _ _ _ _ h, Below.heap_setCell _ _ _ _ h, Below.heap_setCell _ _ _ _ h, Below.heap_setCell _ _ _ _ h]
theorem heap_two (w : World) (b c i0 i1 : Nat) (x0 x1 : Value) (h : c ≠ b) : ((w.setCell ⟨b, i0, none⟩ x0).setCell ⟨b, i1, none⟩ x1).drew.heap[c]? = w.heap[c]? := by
  have e : ∀ W : World, W.drew.heap[c]? = W.heap[c]? := fun W => rfl
  rw [e, Below.heap_setCell _ _ _ _ h, Below.heap_setCell _ _ _ _ h]
theorem Filled.store6 {w : World} {b : Nat} {e : TypeId} {n k : Nat} {c : Nat → Nat → Value} (h : Filled w b e 6 n k c) (hk : k < n) {x0 x1 x2 x3 x4 x5 : Value} (e0 : c k 0 = x0) (e1 : c k 1 = x1) (e2 : c k 2 = x2) (e3 : c k 3 = x3) (e4 : c k 4 = x4) (e5 : c k 5 = x5) :
    Filled ((((((w.setCell ⟨b, k * 6, none⟩ x0).setCell ⟨b, k * 6 + 1, none⟩ x1).setCell ⟨b, k * 6 + 2, none⟩ x2).setCell ⟨b, k * 6 + 3, none⟩ x3).setCell ⟨b, k * 6 + 4, none⟩ x4).setCell ⟨b, k * 6 + 5, none⟩ x5).drew b e 6 n (k + 1) c :=
  ((((((h.part.step (by omega) hk e0 (by omega)).step (by omega) hk e1 rfl).step (by omega) hk e2 rfl).step (by omega) hk e3 rfl).step (by omega) hk e4 rfl).step (by omega) hk e5 rfl).drew.full
theorem Filled.store2 {w : World} {b : Nat} {e : TypeId} {n k : Nat} {c : Nat → Nat → Value} (h : Filled w b e 2 n k c) (hk : k < n) {x0 x1 : Value} (e0 : c k 0 = x0) (e1 : c k 1 = x1) :
    Filled ((w.setCell ⟨b, k * 2, none⟩ x0).setCell ⟨b, k * 2 + 1, none⟩ x1).drew b e 2 n (k + 1) c :=
  ((h.part.step (by omega) hk e0 (by omega)).step (by omega) hk e1 rfl).drew.full
theorem Filled.kept {w w' : World} {b : Nat} {e : TypeId} {q n k : Nat} {c : Nat → Nat → Value} (h : Filled w b e q n k c) (hb : w'.heap[b]? = w.heap[b]?) : Filled w' b e q n k c := by
  obtain ⟨cur, hg, hs, hc⟩ := h
  exact ⟨cur, by rw [hb]; exact hg, hs, hc⟩

end Go.Proofs.Qxb6602416a
