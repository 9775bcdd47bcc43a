import Derived.Test.Qxb6602416aPlain
/-
  Plain mathematics of the weft laws: the graph's making, op by op.
-/
namespace Go.Proofs.Qxb6602416a.Plain

/-- The last place of x in a list. -/
def lastIdx : List Int → Int → Option Nat
  | [], _ => none
  | y :: r, x => match lastIdx r x with
    | some i => some (i + 1)
    | none => if y = x then some 0 else none

theorem lastIdx_snoc (r : List Int) (y x : Int) : lastIdx (r ++ [y]) x = if y = x then some r.length else lastIdx r x := by
  induction r with
  | nil => simp [lastIdx]
  | cons z r ih =>
    simp only [List.cons_append, lastIdx, ih, List.length_cons]
    by_cases h : y = x
    · simp [h]
    · simp [h]
theorem lastIdx_lt (r : List Int) (x : Int) (i : Nat) (h : lastIdx r x = some i) : i < r.length ∧ r[i]? = some x := by
  induction r generalizing i with
  | nil => simp [lastIdx] at h
  | cons z r ih =>
    simp only [lastIdx] at h
    cases hl : lastIdx r x with
    | some j =>
      rw [hl] at h
      simp at h
      subst h
      have := ih j hl
      exact ⟨by simp; omega, by simpa using this.2⟩
    | none =>
      rw [hl] at h
      simp at h
      obtain ⟨rfl, rfl⟩ := h
      simp
theorem lastIdx_none (r : List Int) (x : Int) : lastIdx r x = none ↔ x ∉ r := by
  induction r with
  | nil => simp [lastIdx]
  | cons z r ih =>
    simp only [lastIdx]
    cases hl : lastIdx r x with
    | some j =>
      have : x ∈ r := by
        apply Classical.byContradiction
        intro hn
        rw [ih.2 hn] at hl; cases hl
      simp [this]
    | none =>
      have := ih.1 hl
      by_cases h : z = x
      · simp [h]
      · simp [h, this, Ne.symm h]

/-- The state of conflictGraph's loop: the edges so far; for each item its last writer (-1: none) and the readers since. -/
structure GS where
  E : List (Nat × Nat)
  st : ByteArray → Option (Int × List Int)
def GS.zero : GS := ⟨[], fun _ => none⟩
def GS.acc (s : GS) (item : ByteArray) : Int × List Int := (s.st item).getD (-1, [])
def GS.set (s : GS) (E : List (Nat × Nat)) (item : ByteArray) (a : Int × List Int) : GS := ⟨E, fun x => if x = item then some a else s.st x⟩
/-- One op. -/
def gstep (ids : List Int) (s : GS) (txn : Int) (item : ByteArray) (kind : Int) : GS :=
  match lastIdx ids txn with
  | none => s
  | some v =>
    if kind = 2 then s.set (addE s.E (s.acc item).1 v) item ((s.acc item).1, once (s.acc item).2 v)
    else if kind = 3 then s.set ((s.acc item).2.foldl (fun E r => addE E r v) (addE s.E (s.acc item).1 v)) item ((v : Int), [])
    else s

/-- What holds of such a state: n nodes, k ops. -/
structure GOk (n k : Nat) (s : GS) : Prop where
  len : s.E.length ≤ 4097 * k
  wr : ∀ x a, s.st x = some a → a.1 < n ∧ -1 ≤ a.1
  rd : ∀ x a, s.st x = some a → (∀ r ∈ a.2, 0 ≤ r ∧ r < n) ∧ a.2.length ≤ k

theorem addE_le (E : List (Nat × Nat)) (a : Int) (b : Nat) : (addE E a b).length ≤ E.length + 1 := by unfold addE; split <;> simp
theorem foldE_le (rs : List Int) (v : Nat) : ∀ E, (rs.foldl (fun E r => addE E r v) E).length ≤ E.length + rs.length := by
  induction rs with
  | nil => intro E; simp
  | cons r rs ih => intro E; have := ih (addE E r v); have := addE_le E r v; simp only [List.foldl_cons, List.length_cons]; omega
theorem once_le (xs : List Int) (t : Int) : (once xs t).length ≤ xs.length + 1 := by unfold once; split <;> simp
theorem once_mem (xs : List Int) (t r : Int) (h : r ∈ once xs t) : r ∈ xs ∨ r = t := by
  unfold once at h; split at h
  · exact .inl h
  · simpa using h
theorem GOk.zero (n : Nat) : GOk n 0 GS.zero := ⟨by simp [GS.zero], fun x a h => by simp [GS.zero] at h, fun x a h => by simp [GS.zero] at h⟩
theorem GOk.acc {n k : Nat} {s : GS} (h : GOk n k s) (x : ByteArray) : (s.acc x).1 < n ∧ -1 ≤ (s.acc x).1 ∧ (∀ r ∈ (s.acc x).2, 0 ≤ r ∧ r < n) ∧ (s.acc x).2.length ≤ k := by
  unfold GS.acc
  cases hx : s.st x with
  | none => simp; omega
  | some a => exact ⟨(h.wr x a hx).1, (h.wr x a hx).2, (h.rd x a hx).1, (h.rd x a hx).2⟩
theorem GOk.step {k : Nat} {s : GS} {ids : List Int} (h : GOk ids.length k s) (hk : k < 4096) (txn : Int) (item : ByteArray) (kind : Int) : GOk ids.length (k + 1) (gstep ids s txn item kind) := by
  have hmono : GOk ids.length (k + 1) s := ⟨by have := h.len; omega, h.wr, fun x a hx => ⟨(h.rd x a hx).1, by have := (h.rd x a hx).2; omega⟩⟩
  unfold gstep
  cases hl : lastIdx ids txn with
  | none => exact hmono
  | some v =>
    have hv := (lastIdx_lt ids txn v hl).1
    obtain ⟨a1, a2, a3, a4⟩ := h.acc item
    have hE := h.len
    simp only []
    split
    · refine ⟨?_, fun x a hx => ?_, fun x a hx => ?_⟩
      · have := addE_le s.E (s.acc item).1 v
        simp only [GS.set]; omega
      · simp only [GS.set] at hx
        split at hx
        · cases hx; exact ⟨a1, a2⟩
        · exact h.wr x a hx
      · simp only [GS.set] at hx
        split at hx
        · cases hx
          refine ⟨fun r hr => ?_, by have := once_le (s.acc item).2 v; simp only []; omega⟩
          rcases once_mem _ _ _ hr with hr | rfl
          · exact a3 r hr
          · omega
        · exact hmono.rd x a hx
    · split
      · refine ⟨?_, fun x a hx => ?_, fun x a hx => ?_⟩
        · have h1 := addE_le s.E (s.acc item).1 v
          have h2 := foldE_le (s.acc item).2 v (addE s.E (s.acc item).1 v)
          simp only [GS.set]; omega
        · simp only [GS.set] at hx
          split at hx
          · cases hx; simp only []; omega
          · exact h.wr x a hx
        · simp only [GS.set] at hx
          split at hx
          · cases hx; simp
          · exact hmono.rd x a hx
      · exact hmono

end Go.Proofs.Qxb6602416a.Plain
