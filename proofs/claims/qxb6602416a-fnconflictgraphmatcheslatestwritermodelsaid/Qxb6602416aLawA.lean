import Derived.Test.Qxb6602416aZZ
import Derived.Test.Qxb6602416aAcyc
import Derived.Test.Qxb6602416aClone
import Derived.Test.Qxb6602416aGuard
import Derived.Test.Qxb6602416aGuard2
/-
  What the three laws share: the edges of the graph; the callees' contracts at a length that is a letter.
-/
namespace Go.Proofs.Qxb6602416a
open Go.RowKit
set_option linter.unusedVariables false

/-- The node of op i. -/
def nd (ids : List Int) (ops : List OpR) (i : Nat) : Option Nat := Plain.lastIdx ids (ops.getD i opZero).txn
/-- r is the node of an op before k. -/
def Met (ids : List Int) (ops : List OpR) (k : Nat) (r : Int) : Prop := ∃ (i v : Nat), i < k ∧ nd ids ops i = some v ∧ r = (v : Int)
theorem Met.mono {ids : List Int} {ops : List OpR} {k : Nat} {r : Int} (h : Met ids ops k r) : Met ids ops (k + 1) r := by
  obtain ⟨i, v, h1, h2, h3⟩ := h
  exact ⟨i, v, by omega, h2, h3⟩

/-- Every edge leads from an op's node to a later op's node, another one. -/
structure EOk (ids : List Int) (ops : List OpR) (k : Nat) (s : Plain.GS) : Prop where
  edge : ∀ a b, (a, b) ∈ s.E → a ≠ b ∧ ∃ i j, i < j ∧ j < k ∧ nd ids ops i = some a ∧ nd ids ops j = some b
  wr : ∀ x c, s.st x = some c → c.1 = -1 ∨ Met ids ops k c.1
  rd : ∀ x c, s.st x = some c → ∀ r ∈ c.2, Met ids ops k r

theorem mem_addE {E : List (Nat × Nat)} {r : Int} {v a b : Nat} (h : (a, b) ∈ Plain.addE E r v) : (a, b) ∈ E ∨ (r = (a : Int) ∧ b = v ∧ a ≠ v) := by
  unfold Plain.addE at h
  split at h
  · rcases List.mem_append.1 h with h | h
    · exact .inl h
    · simp only [List.mem_singleton, Prod.mk.injEq] at h
      exact .inr ⟨by omega, h.2, by omega⟩
  · exact .inl h
theorem mem_foldE {v a b : Nat} : ∀ (rs : List Int) (E : List (Nat × Nat)), (a, b) ∈ rs.foldl (fun E r => Plain.addE E r v) E → (a, b) ∈ E ∨ ((a : Int) ∈ rs ∧ b = v ∧ a ≠ v) := by
  intro rs
  induction rs with
  | nil => intro E h; exact .inl h
  | cons r rs ih =>
    intro E h
    rcases ih _ h with h | ⟨h1, h2, h3⟩
    · rcases mem_addE h with h | ⟨h1, h2, h3⟩
      · exact .inl h
      · exact .inr ⟨by simp [h1], h2, h3⟩
    · exact .inr ⟨List.mem_cons_of_mem _ h1, h2, h3⟩

theorem EOk.acc {ids : List Int} {ops : List OpR} {k : Nat} {s : Plain.GS} (h : EOk ids ops k s) (x : ByteArray) : ((s.acc x).1 = -1 ∨ Met ids ops k (s.acc x).1) ∧ ∀ r ∈ (s.acc x).2, Met ids ops k r := by
  unfold Plain.GS.acc
  cases hx : s.st x with
  | none => exact ⟨.inl rfl, fun r hr => by simp at hr⟩
  | some a => exact ⟨h.wr x a hx, h.rd x a hx⟩

theorem EOk.step {ids : List Int} {ops : List OpR} {k : Nat} {s : Plain.GS} (h : EOk ids ops k s) : EOk ids ops (k + 1) (Plain.gstep ids s (ops.getD k opZero).txn (ops.getD k opZero).item (ops.getD k opZero).kind) := by
  have hmono : EOk ids ops (k + 1) s := ⟨fun a b hab => by obtain ⟨h1, i, j, h2, h3, h4⟩ := h.edge a b hab; exact ⟨h1, i, j, h2, by omega, h4⟩, fun x c hx => by rcases h.wr x c hx with q | q; exact .inl q; exact .inr q.mono, fun x c hx r hr => (h.rd x c hx r hr).mono⟩
  unfold Plain.gstep
  cases hl : Plain.lastIdx ids (ops.getD k opZero).txn with
  | none => exact hmono
  | some v =>
    have hnd : nd ids ops k = some v := hl
    have hme : Met ids ops (k + 1) (v : Int) := ⟨k, v, by omega, hnd, rfl⟩
    obtain ⟨a1, a2⟩ := h.acc (ops.getD k opZero).item
    have new : ∀ a b : Nat, Met ids ops k (a : Int) → b = v → a ≠ v → a ≠ b ∧ ∃ i j, i < j ∧ j < k + 1 ∧ nd ids ops i = some a ∧ nd ids ops j = some b := by
      rintro a b ⟨i, u, hi, hn, hu⟩ rfl hne
      have : a = u := by omega
      subst this
      exact ⟨hne, i, k, hi, by omega, hn, hnd⟩
    have fromW : ∀ a b, (a, b) ∈ Plain.addE s.E (s.acc (ops.getD k opZero).item).1 v → a ≠ b ∧ ∃ i j, i < j ∧ j < k + 1 ∧ nd ids ops i = some a ∧ nd ids ops j = some b := fun a b hab => by
      rcases mem_addE hab with hab | ⟨h1, h2, h3⟩
      · exact hmono.edge a b hab
      · rcases a1 with a1 | a1
        · omega
        · rw [h1] at a1; exact new a b a1 h2 h3
    simp only []
    split
    · refine ⟨fromW, fun x c hx => ?_, fun x c hx r hr => ?_⟩
      · simp only [Plain.GS.set] at hx
        split at hx
        · cases hx; rcases a1 with q | q; exact .inl q; exact .inr q.mono
        · exact hmono.wr x c hx
      · simp only [Plain.GS.set] at hx
        split at hx
        · cases hx
          rcases Plain.once_mem _ _ _ hr with hr | rfl
          · exact (a2 r hr).mono
          · exact hme
        · exact hmono.rd x c hx r hr
    · split
      · refine ⟨fun a b hab => ?_, fun x c hx => ?_, fun x c hx r hr => ?_⟩
        · rcases mem_foldE _ _ hab with hab | ⟨h1, h2, h3⟩
          · exact fromW a b hab
          · exact new a b (a2 _ h1) h2 h3
        · simp only [Plain.GS.set] at hx
          split at hx
          · cases hx; exact .inr hme
          · exact hmono.wr x c hx
        · simp only [Plain.GS.set] at hx
          split at hx
          · cases hx; simp at hr
          · exact hmono.rd x c hx r hr
      · exact hmono

theorem gsAt_eok (ids : List Int) (ops : List OpR) : ∀ k, k ≤ ops.length → EOk ids ops k (gsAt ids ops k) := by
  intro k
  induction k with
  | zero => intro _; exact ⟨fun a b h => by simp [gsAt, Plain.GS.zero] at h, fun x c h => by simp [gsAt, Plain.GS.zero] at h, fun x c h => by simp [gsAt, Plain.GS.zero] at h⟩
  | succ k ih => intro h; rw [gsAt_succ ids ops k (by omega)]; exact (ih (by omega)).step

/-- In a serial history the edges lead upward: the rank of a node is the place of its first op. -/
def rankOf (ids : List Int) (ops : List OpR) (v : Nat) : Nat := ((List.range ops.length).find? (fun i => decide (nd ids ops i = some v))).getD ops.length

theorem rankOf_spec {ids : List Int} {ops : List OpR} {v i : Nat} (hi : i < ops.length) (h : nd ids ops i = some v) : rankOf ids ops v ≤ i ∧ nd ids ops (rankOf ids ops v) = some v := by
  unfold rankOf
  cases hf : (List.range ops.length).find? (fun i => decide (nd ids ops i = some v)) with
  | none => have := List.find?_eq_none.1 hf i (by simpa using hi); simp [h] at this
  | some m =>
    have h1 := List.find?_some hf
    refine ⟨?_, by simpa using h1⟩
    show m ≤ i
    apply Classical.byContradiction
    intro hlt
    rw [List.find?_range_eq_some] at hf
    have := hf.2.2 i (by omega)
    simp [h] at this

theorem serial_rank {ids : List Int} {ops : List OpR} (hs : ∀ j, 1 ≤ j → j < ops.length → (ops.getD j opZero).txn ≠ (ops.getD (j - 1) opZero).txn → ∀ i, i < j - 1 → (ops.getD i opZero).txn ≠ (ops.getD j opZero).txn)
    {a b : Nat} (hab : (a, b) ∈ (gsAt ids ops ops.length).E) : rankOf ids ops a < rankOf ids ops b := by
  obtain ⟨hne, i, j, hij, hj, hi1, hj1⟩ := (gsAt_eok ids ops ops.length (Nat.le_refl _)).edge a b hab
  obtain ⟨ra, ra2⟩ := rankOf_spec (by omega) hi1
  obtain ⟨rb, rb2⟩ := rankOf_spec hj hj1
  apply Classical.byContradiction
  intro hle
  have same : ∀ p, nd ids ops p = some b → (ops.getD p opZero).txn = (ops.getD j opZero).txn := fun p hp => by
    have h1 := (Plain.lastIdx_lt _ _ _ hp).2
    have h2 := (Plain.lastIdx_lt _ _ _ hj1).2
    rw [h1] at h2; exact Option.some.inj h2
  have hzi : (ops.getD i opZero).txn ≠ (ops.getD j opZero).txn := fun e => by
    have : nd ids ops i = nd ids ops j := by unfold nd; rw [e]
    rw [hi1, hj1] at this; cases this; exact hne rfl
  -- the first place behind i at which j's txn stands
  have step : ∀ d m, m = i + 1 + d → m ≤ j → (ops.getD m opZero).txn = (ops.getD j opZero).txn → False := by
    intro d
    induction d with
    | zero =>
      intro m hm hmj he
      have hb := same _ rb2
      have hri : rankOf ids ops b ≤ i := by omega
      have hrne : rankOf ids ops b ≠ i := fun e => hzi (by rw [← e]; exact hb)
      have := hs m (by omega) (by omega) (by rw [he, show m - 1 = i by omega]; exact Ne.symm hzi) (rankOf ids ops b) (by omega)
      exact this (hb.trans he.symm)
    | succ d ih =>
      intro m hm hmj he
      by_cases hp : (ops.getD (m - 1) opZero).txn = (ops.getD j opZero).txn
      · exact ih (m - 1) (by omega) (by omega) hp
      · have hb := same _ rb2
        have hri : rankOf ids ops b ≤ i := by omega
        have := hs m (by omega) (by omega) (by rw [he]; exact fun e => hp e.symm) (rankOf ids ops b) (by omega)
        exact this (hb.trans he.symm)
  exact step (j - i - 1) j (by omega) (Nat.le_refl _) rfl

theorem mem_sOf {E : List (Nat × Nat)} {x : Nat} {t : Int} : t ∈ Plain.sOf E x ↔ ∃ b : Nat, (x, b) ∈ E ∧ t = (b : Int) := by
  simp only [Plain.sOf, List.mem_map, List.mem_filter, beq_iff_eq]
  constructor
  · rintro ⟨⟨p, q⟩, ⟨h1, h2⟩, h3⟩
    simp only at h2 h3
    subst h2
    exact ⟨q, h1, h3.symm⟩
  · rintro ⟨b, h1, h2⟩
    exact ⟨(x, b), ⟨h1, rfl⟩, h2.symm⟩

theorem sumC_sOf_nil (t : Int) : ∀ X, Kahn.sumC (Plain.sOf []) (fun _ => true) t X = 0
  | 0 => rfl
  | X + 1 => by simp [Kahn.sumC, sumC_sOf_nil t X, Plain.sOf]
theorem sumC_sOf_snoc (E : List (Nat × Nat)) (a b : Nat) (t : Int) : ∀ X, Kahn.sumC (Plain.sOf (E ++ [(a, b)])) (fun _ => true) t X = Kahn.sumC (Plain.sOf E) (fun _ => true) t X + if a < X ∧ (b : Int) = t then 1 else 0
  | 0 => by simp [Kahn.sumC]
  | X + 1 => by
    have ih := sumC_sOf_snoc E a b t X
    simp only [Kahn.sumC, if_true, ih, Plain.sOf_snoc, List.count_append]
    by_cases h1 : a = X
    · subst h1
      rw [if_neg (by omega : ¬ (a < a ∧ (b : Int) = t)), if_pos rfl]
      by_cases h2 : (b : Int) = t
      · rw [if_pos ⟨by omega, h2⟩, h2]; simp; omega
      · rw [if_neg (by omega), List.count_singleton, if_neg (by simpa using h2)]; omega
    · rw [if_neg h1]
      have : (a < X ∧ (b : Int) = t) ↔ (a < X + 1 ∧ (b : Int) = t) := by constructor <;> (rintro ⟨x, y⟩; exact ⟨by omega, y⟩)
      simp only [this, List.count_nil]; omega
theorem sumC_sOf_le (t : Int) (X : Nat) : ∀ (r : List (Nat × Nat)), Kahn.sumC (Plain.sOf r.reverse) (fun _ => true) t X ≤ r.length := by
  intro r
  induction r with
  | nil => simp [sumC_sOf_nil]
  | cons p r ih =>
    obtain ⟨a, b⟩ := p
    rw [List.reverse_cons, sumC_sOf_snoc, List.length_cons]
    split <;> omega
theorem cntTo_sOf_le (E : List (Nat × Nat)) (n : Nat) (t : Int) : Kahn.cntTo (Plain.sOf E) n 0 t ≤ E.length := by
  rw [Kahn.cntTo_end]
  have := sumC_sOf_le t n E.reverse
  simpa using this

/-! The callees' contracts at a length that is a letter. -/
theorem cloneInts_n (w : World) (a : Option Addr) (n cap : Nat) (zs : List Int) (hn : zs.length = n) (hc : CellsAt (.int .i64) 0 w a zs) (hl : n ≤ 65536) :
    Calls Try.prog 9 #[.slice a n cap] w fun e w' => ∃ a' c', e = .returned (.slice a' n c') ∧ CellsAt (.int .i64) 0 w' a' zs ∧ Below w.heap.size w w' := by
  subst hn; exact cloneInts_any w a cap zs hc hl
theorem cloneStrings_n (w : World) (a : Option Addr) (n cap : Nat) (zs : List ByteArray) (hn : zs.length = n) (hc : CellsAt .string ByteArray.empty w a zs) (hl : n ≤ 65536) :
    Calls Try.prog 10 #[.slice a n cap] w fun e w' => ∃ a' c', e = .returned (.slice a' n c') ∧ CellsAt .string ByteArray.empty w' a' zs ∧ Below w.heap.size w w' := by
  subst hn; exact cloneStrings_any w a cap zs hc hl
theorem cloneBytes_n (w : World) (a : Option Addr) (n cap : Nat) (zs : List Int) (hn : zs.length = n) (hc : CellsAt (.int .u8) 0 w a zs) (hl : n ≤ 65536) :
    Calls Try.prog 11 #[.slice a n cap] w fun e w' => ∃ a' c', e = .returned (.slice a' n c') ∧ CellsAt (.int .u8) 0 w' a' zs ∧ Below w.heap.size w w' := by
  subst hn; exact cloneBytes_any w a cap zs hc hl
theorem cloneBools_n (w : World) (a : Option Addr) (n cap : Nat) (zs : List Bool) (hn : zs.length = n) (hc : CellsAt .bool false w a zs) (hl : n ≤ 65536) :
    Calls Try.prog 12 #[.slice a n cap] w fun e w' => ∃ a' c', e = .returned (.slice a' n c') ∧ CellsAt .bool false w' a' zs ∧ Below w.heap.size w w' := by
  subst hn; exact cloneBools_any w a cap zs hc hl

/-- Lists of one length, as one list of ops. -/
theorem ops_of (z0 : List Int) (s1 s2 : List ByteArray) (z3 z4 : List Int) (p5 : List Bool) (h1 : s1.length = z0.length) (h2 : s2.length = z0.length) (h3 : z3.length = z0.length) (h4 : z4.length = z0.length) (h5 : p5.length = z0.length) :
    ∃ ops : List OpR, z0 = ops.map (·.txn) ∧ s1 = ops.map (·.item) ∧ s2 = ops.map (·.value) ∧ z3 = ops.map (·.frm) ∧ z4 = ops.map (·.kind) ∧ p5 = ops.map (·.ver) := by
  induction z0 generalizing s1 s2 z3 z4 p5 with
  | nil =>
    simp only [List.length_nil, List.length_eq_zero_iff] at h1 h2 h3 h4 h5
    exact ⟨[], by simp [h1, h2, h3, h4, h5]⟩
  | cons x z0 ih =>
    cases s1 with
    | nil => simp at h1
    | cons a s1 =>
    cases s2 with
    | nil => simp at h2
    | cons b s2 =>
    cases z3 with
    | nil => simp at h3
    | cons c z3 =>
    cases z4 with
    | nil => simp at h4
    | cons d z4 =>
    cases p5 with
    | nil => simp at h5
    | cons e p5 =>
    simp only [List.length_cons, Nat.add_right_cancel_iff] at h1 h2 h3 h4 h5
    obtain ⟨ops, q0, q1, q2, q3, q4, q5⟩ := ih s1 s2 z3 z4 p5 h1 h2 h3 h4 h5
    exact ⟨⟨x, a, b, c, d, e⟩ :: ops, by simp [q0], by simp [q1], by simp [q2], by simp [q3], by simp [q4], by simp [q5]⟩
theorem txns_of (z6 z7 : List Int) (h : z7.length = z6.length) : ∃ ts : List (Int × Int), z6 = ts.map (·.1) ∧ z7 = ts.map (·.2) := by
  induction z6 generalizing z7 with
  | nil => simp only [List.length_nil, List.length_eq_zero_iff] at h; exact ⟨[], by simp [h]⟩
  | cons x z6 ih =>
    cases z7 with
    | nil => simp at h
    | cons a z7 =>
    simp only [List.length_cons, Nat.add_right_cancel_iff] at h
    obtain ⟨ts, q0, q1⟩ := ih z7 h
    exact ⟨(x, a) :: ts, by simp [q0], by simp [q1]⟩

end Go.Proofs.Qxb6602416a
