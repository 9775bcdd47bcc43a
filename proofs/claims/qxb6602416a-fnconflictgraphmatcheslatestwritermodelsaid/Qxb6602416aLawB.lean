import Derived.Test.Qxb6602416aLawA
import Derived.Test.Qxb6602416aCount
/-
  The plain law of 'edges bounded and mirrored'.
-/
namespace Go.Proofs.Qxb6602416a
open Go.RowKit
set_option linter.unusedVariables false

theorem snoc_ind {α : Type} {p : List α → Prop} (h0 : p []) (hs : ∀ l x, p l → p (l ++ [x])) (l : List α) : p l := by
  have key : ∀ r : List α, p r.reverse := by
    intro r
    induction r with
    | nil => exact h0
    | cons x r ih => rw [List.reverse_cons]; exact hs _ _ ih
  have := key l.reverse
  rwa [List.reverse_reverse] at this

theorem count_mirror (E : List (Nat × Nat)) (x b : Nat) : (Plain.sOf E x).count (b : Int) = (Plain.pOf E b).count (x : Int) := by
  induction E using snoc_ind with
  | h0 => rfl
  | hs E p ih =>
    obtain ⟨u, v⟩ := p
    rw [Plain.sOf_snoc, Plain.pOf_snoc, List.count_append, List.count_append, ih]
    by_cases h1 : u = x
    · by_cases h2 : v = b
      · subst h1; subst h2; simp
      · have : ¬ (v : Int) = (b : Int) := by omega
        rw [if_pos h1, if_neg h2, List.count_singleton]
        simp [this]
    · by_cases h2 : v = b
      · have : ¬ (u : Int) = (x : Int) := by omega
        rw [if_neg h1, if_pos h2, List.count_singleton]
        simp [this]
      · rw [if_neg h1, if_neg h2]; simp

/-- The rows' lengths added up. -/
def sumL (f : Nat → List Int) : Nat → Nat
  | 0 => 0
  | X + 1 => sumL f X + (f X).length
theorem sumL_s_snoc (E : List (Nat × Nat)) (a b : Nat) : ∀ X, sumL (Plain.sOf (E ++ [(a, b)])) X = sumL (Plain.sOf E) X + if a < X then 1 else 0
  | 0 => by simp [sumL]
  | X + 1 => by
    have ih := sumL_s_snoc E a b X
    simp only [sumL, ih, Plain.sOf_snoc, List.length_append]
    by_cases h1 : a = X
    · subst h1; simp; omega
    · have : (a < X + 1) ↔ (a < X) := by omega
      simp only [this, if_neg h1, List.length_nil]; omega
theorem sumL_p_snoc (E : List (Nat × Nat)) (a b : Nat) : ∀ X, sumL (Plain.pOf (E ++ [(a, b)])) X = sumL (Plain.pOf E) X + if b < X then 1 else 0
  | 0 => by simp [sumL]
  | X + 1 => by
    have ih := sumL_p_snoc E a b X
    simp only [sumL, ih, Plain.pOf_snoc, List.length_append]
    by_cases h1 : b = X
    · subst h1; simp; omega
    · have : (b < X + 1) ↔ (b < X) := by omega
      simp only [this, if_neg h1, List.length_nil]; omega
theorem sumL_nil_s : ∀ X, sumL (Plain.sOf []) X = 0
  | 0 => rfl
  | X + 1 => by simp [sumL, sumL_nil_s X, Plain.sOf]
theorem sumL_nil_p : ∀ X, sumL (Plain.pOf []) X = 0
  | 0 => rfl
  | X + 1 => by simp [sumL, sumL_nil_p X, Plain.pOf]
theorem sumL_s (n : Nat) (E : List (Nat × Nat)) : (∀ p ∈ E, p.1 < n) → sumL (Plain.sOf E) n = E.length := by
  induction E using snoc_ind with
  | h0 => intro _; exact sumL_nil_s n
  | hs E p ih =>
    intro h
    obtain ⟨a, b⟩ := p
    have ha : a < n := h (a, b) (by simp)
    rw [sumL_s_snoc, ih (fun q hq => h q (by simp [hq])), if_pos ha]; simp
theorem sumL_p (n : Nat) (E : List (Nat × Nat)) : (∀ p ∈ E, p.2 < n) → sumL (Plain.pOf E) n = E.length := by
  induction E using snoc_ind with
  | h0 => intro _; exact sumL_nil_p n
  | hs E p ih =>
    intro h
    obtain ⟨a, b⟩ := p
    have ha : b < n := h (a, b) (by simp)
    rw [sumL_p_snoc, ih (fun q hq => h q (by simp [hq])), if_pos ha]; simp
theorem sumL_mono (f : Nat → List Int) (X : Nat) : ∀ n, X ≤ n → sumL f X ≤ sumL f n := by
  intro n
  induction n with
  | zero => intro h; rw [Nat.le_zero.1 h]; exact Nat.le_refl _
  | succ n ih =>
    intro h
    rcases Nat.lt_or_ge X (n + 1) with h1 | h1
    · have := ih (by omega)
      simp only [sumL]; omega
    · have : X = n + 1 := by omega
      rw [this]; exact Nat.le_refl _

/-- How many of the first k ops are committed reads or writes. -/
def accN (ids : List Int) (ops : List OpR) : Nat → Nat
  | 0 => 0
  | k + 1 => accN ids ops k + if (nd ids ops k).isSome = true ∧ ((ops.getD k opZero).kind = 2 ∨ (ops.getD k opZero).kind = 3) then 1 else 0

/-- The readers of the items of a list, counted. -/
def rds (s : Plain.GS) (L : List ByteArray) : Nat := (L.map (fun x => (s.acc x).2.length)).sum

theorem rds_split (s : Plain.GS) (it : ByteArray) : ∀ L : List ByteArray, L.Nodup → rds s L ≤ rds s (L.filter (fun x => decide (x ≠ it))) + (s.acc it).2.length := by
  intro L
  induction L with
  | nil => intro _; simp [rds]
  | cons x L ih =>
    intro h
    obtain ⟨h1, h2⟩ := List.nodup_cons.1 h
    by_cases e : x = it
    · subst e
      have hf : L.filter (fun y => decide (y ≠ x)) = L := List.filter_eq_self.2 (fun y hy => by simp; exact fun e => h1 (e ▸ hy))
      simp only [List.filter_cons, ne_eq, not_true, decide_false, Bool.false_eq_true, if_false]
      have hf' : List.filter (fun y => decide (¬ y = x)) L = L := hf
      rw [hf']
      simp only [rds, List.map_cons, List.sum_cons]; omega
    · have := ih h2
      rw [List.filter_cons, if_pos (by simpa using e)]
      simp only [rds, List.map_cons, List.sum_cons] at this ⊢; omega
theorem rds_congr {s s' : Plain.GS} {L : List ByteArray} (h : ∀ x ∈ L, s'.acc x = s.acc x) : rds s' L = rds s L := by
  unfold rds
  congr 1
  exact List.map_congr_left (fun x hx => by rw [h x hx])
theorem acc_set_same (s : Plain.GS) (E : List (Nat × Nat)) (it : ByteArray) (a : Int × List Int) : (s.set E it a).acc it = a := by simp [Plain.GS.acc, Plain.GS.set]
theorem acc_set_other (s : Plain.GS) (E : List (Nat × Nat)) (it x : ByteArray) (a : Int × List Int) (h : x ≠ it) : (s.set E it a).acc x = s.acc x := by simp [Plain.GS.acc, Plain.GS.set, h]

theorem bound_step {ids : List Int} {ops : List OpR} {k : Nat} {s : Plain.GS} (h : ∀ L : List ByteArray, L.Nodup → s.E.length + rds s L ≤ 2 * accN ids ops k) :
    ∀ L : List ByteArray, L.Nodup → (Plain.gstep ids s (ops.getD k opZero).txn (ops.getD k opZero).item (ops.getD k opZero).kind).E.length + rds (Plain.gstep ids s (ops.getD k opZero).txn (ops.getD k opZero).item (ops.getD k opZero).kind) L ≤ 2 * accN ids ops (k + 1) := by
  intro L hL
  have hmono : s.E.length + rds s L ≤ 2 * accN ids ops (k + 1) := by have := h L hL; simp only [accN]; omega
  generalize hit : (ops.getD k opZero).item = it
  have hset : ∀ (E : List (Nat × Nat)) (a : Int × List Int), rds (s.set E it a) L ≤ rds s (L.filter (fun x => decide (x ≠ it))) + a.2.length := fun E a => by
    have h1 := rds_split (s.set E it a) it L hL
    rw [acc_set_same] at h1
    have h2 : rds (s.set E it a) (L.filter (fun x => decide (x ≠ it))) = rds s (L.filter (fun x => decide (x ≠ it))) := rds_congr (fun x hx => acc_set_other s E it x a (by simpa using (List.mem_filter.1 hx).2))
    omega
  have hP := h (it :: L.filter (fun x => decide (x ≠ it))) (List.nodup_cons.2 ⟨fun hm => by simpa using (List.mem_filter.1 hm).2, hL.filter _⟩)
  have hP' : s.E.length + ((s.acc it).2.length + rds s (L.filter (fun x => decide (x ≠ it)))) ≤ 2 * accN ids ops k := by simpa [rds] using hP
  unfold Plain.gstep
  cases hl : Plain.lastIdx ids (ops.getD k opZero).txn with
  | none => exact hmono
  | some v =>
    have hnd : nd ids ops k = some v := hl
    simp only []
    split
    · rename_i hk
      have ha : accN ids ops (k + 1) = accN ids ops k + 1 := by simp only [accN]; rw [if_pos ⟨by rw [hnd]; rfl, .inl hk⟩]
      have h1 := hset (Plain.addE s.E (s.acc it).1 v) ((s.acc it).1, Plain.once (s.acc it).2 v)
      have h2 := Plain.addE_le s.E (s.acc it).1 v
      have h3 := Plain.once_le (s.acc it).2 v
      rw [ha]
      simp only [Plain.GS.set] at h1 ⊢
      omega
    · split
      · rename_i hk
        have ha : accN ids ops (k + 1) = accN ids ops k + 1 := by simp only [accN]; rw [if_pos ⟨by rw [hnd]; rfl, .inr hk⟩]
        have h1 := hset ((s.acc it).2.foldl (fun E r => Plain.addE E r v) (Plain.addE s.E (s.acc it).1 v)) ((v : Int), [])
        have h2 := Plain.addE_le s.E (s.acc it).1 v
        have h3 := Plain.foldE_le (s.acc it).2 v (Plain.addE s.E (s.acc it).1 v)
        rw [ha]
        simp only [Plain.GS.set, List.length_nil] at h1 ⊢
        omega
      · exact hmono

theorem gsAt_bound (ids : List Int) (ops : List OpR) : ∀ k, k ≤ ops.length → ∀ L : List ByteArray, L.Nodup → (gsAt ids ops k).E.length + rds (gsAt ids ops k) L ≤ 2 * accN ids ops k := by
  intro k
  induction k with
  | zero =>
    intro _ L _
    have : ∀ L : List ByteArray, rds (gsAt ids ops 0) L = 0 := fun L => by
      induction L with
      | nil => rfl
      | cons x L ih => simp only [rds, List.map_cons, List.sum_cons] at ih ⊢; rw [ih]; simp [gsAt, Plain.GS.zero, Plain.GS.acc]
    rw [this]
    simp [gsAt, Plain.GS.zero, accN]
  | succ k ih => intro h; rw [gsAt_succ ids ops k (by omega)]; exact bound_step (ih (by omega))

theorem edges_bound (ids : List Int) (ops : List OpR) : (gsAt ids ops ops.length).E.length ≤ 2 * accN ids ops ops.length := by
  have := gsAt_bound ids ops ops.length (Nat.le_refl _) [] List.nodup_nil
  omega
theorem accN_le (ids : List Int) (ops : List OpR) : ∀ k, accN ids ops k ≤ k
  | 0 => Nat.le_refl _
  | k + 1 => by have := accN_le ids ops k; simp only [accN]; split <;> omega

end Go.Proofs.Qxb6602416a
