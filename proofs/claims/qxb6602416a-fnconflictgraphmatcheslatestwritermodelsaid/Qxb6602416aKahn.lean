/-
  Plain mathematics: Kahn's algorithm over rows f 0 .. f (n-1) of targets. No Go in sight.
-/
namespace Go.Proofs.Qxb6602416a.Kahn

/-- How often t stands in the rows a < X that 'keep' lets by. -/
def sumC (f : Nat → List Int) (keep : Nat → Bool) (t : Int) : Nat → Nat
  | 0 => 0
  | X + 1 => sumC f keep t X + if keep X then (f X).count t else 0

theorem sumC_congr {f : Nat → List Int} {k1 k2 : Nat → Bool} {t : Int} : ∀ X, (∀ a, a < X → k1 a = k2 a) → sumC f k1 t X = sumC f k2 t X
  | 0, _ => rfl
  | X + 1, h => by simp only [sumC]; rw [sumC_congr X (fun a ha => h a (by omega)), h X (by omega)]

/-- One row more is shut out. -/
theorem sumC_out {f : Nat → List Int} {k1 k2 : Nat → Bool} {t : Int} {x : Nat} (hx : k1 x = true) (hx2 : k2 x = false) (h : ∀ a, a ≠ x → k2 a = k1 a) : ∀ X, sumC f k1 t X = sumC f k2 t X + if x < X then (f x).count t else 0
  | 0 => by simp [sumC]
  | X + 1 => by
    have ih := sumC_out (f := f) (t := t) hx hx2 h X
    simp only [sumC]
    by_cases hxX : x = X
    · subst hxX
      rw [ih, if_neg (Nat.lt_irrefl _), hx, hx2, if_pos (Nat.lt_succ_self _)]
      simp
    · rw [ih, h X (Ne.symm hxX)]
      by_cases hlt : x < X
      · rw [if_pos hlt, if_pos (show x < X + 1 by omega)]; omega
      · rw [if_neg hlt, if_neg (show ¬ x < X + 1 by omega)]; omega

theorem sumC_pos {f : Nat → List Int} {keep : Nat → Bool} {t : Int} : ∀ X, 0 < sumC f keep t X → ∃ a, a < X ∧ keep a = true ∧ t ∈ f a
  | 0, h => by simp [sumC] at h
  | X + 1, h => by
    simp only [sumC] at h
    by_cases h0 : 0 < sumC f keep t X
    · obtain ⟨a, ha, hk, hm⟩ := sumC_pos X h0
      exact ⟨a, by omega, hk, hm⟩
    · by_cases hk : keep X = true
      · rw [if_pos hk] at h
        exact ⟨X, by omega, hk, List.count_pos_iff.1 (by omega)⟩
      · rw [if_neg hk] at h; omega

theorem sumC_le {f : Nat → List Int} {k1 k2 : Nat → Bool} {t : Int} : ∀ X, (∀ a, k1 a = true → k2 a = true) → sumC f k1 t X ≤ sumC f k2 t X
  | 0, _ => Nat.le_refl _
  | X + 1, h => by
    have := sumC_le (f := f) (t := t) X h
    simp only [sumC]
    by_cases h1 : k1 X = true
    · rw [if_pos h1, if_pos (h X h1)]; omega
    · rw [if_neg h1]; omega

/-- What the first loop has counted: rows below X whole, of row X the first k. -/
def cntTo (f : Nat → List Int) (X k : Nat) (t : Int) : Nat := sumC f (fun _ => true) t X + ((f X).take k).count t
theorem cntTo_next (f : Nat → List Int) (X : Nat) (t : Int) : cntTo f (X + 1) 0 t = cntTo f X (f X).length t := by simp [cntTo, sumC]
theorem cntTo_step (f : Nat → List Int) (X k : Nat) (t : Int) (h : k < (f X).length) : cntTo f X (k + 1) t = cntTo f X k t + if (f X)[k] = t then 1 else 0 := by
  simp only [cntTo]
  rw [List.take_succ_eq_append_getElem h, List.count_append]
  by_cases e : (f X)[k] = t
  · simp [e]; omega
  · simp [e]
theorem cntTo_zero (f : Nat → List Int) (t : Int) : cntTo f 0 0 t = 0 := by simp [cntTo, sumC]
theorem cntTo_end (f : Nat → List Int) (n : Nat) (t : Int) : cntTo f n 0 t = sumC f (fun _ => true) t n := by simp [cntTo]

/-! The queue: a list of numbers, no two alike, all below n. -/
def Good (n : Nat) (q : List Int) : Prop := q.Nodup ∧ ∀ x ∈ q, 0 ≤ x ∧ x < n

theorem len_filter (q : List Int) (m : Int) : q.length = (q.filter (fun x => x != m)).length + q.count m := by
  induction q with
  | nil => simp
  | cons y q ih =>
    by_cases e : y = m
    · subst e
      simp only [List.filter_cons, bne_self_eq_false, Bool.false_eq_true, if_false, List.length_cons, List.count_cons_self, ih]; omega
    · have e2 : (y != m) = true := by simpa using e
      rw [List.filter_cons, if_pos e2, List.length_cons, List.length_cons, List.count_cons_of_ne e, ih]; omega

theorem nodup_bound : ∀ (n : Nat) (q : List Int), Good n q → q.length ≤ n := by
  intro n
  induction n with
  | zero =>
    intro q h
    cases q with
    | nil => simp
    | cons x q => have := h.2 x (by simp); omega
  | succ n ih =>
    intro q h
    have h1 : Good n (q.filter (fun x => x != (n : Int))) := by
      refine ⟨h.1.filter _, fun x hx => ?_⟩
      obtain ⟨hm, hne⟩ := List.mem_filter.1 hx
      have := h.2 x hm
      simp at hne
      omega
    have h2 := ih _ h1
    have hc : q.count (n : Int) ≤ 1 := List.nodup_iff_count.1 h.1 _
    have := len_filter q (n : Int)
    omega

theorem all_bound : ∀ (n : Nat) (q : List Int), (∀ i : Nat, i < n → (i : Int) ∈ q) → n ≤ q.length := by
  intro n
  induction n with
  | zero => intro q _; exact Nat.zero_le _
  | succ n ih =>
    intro q h
    have h2 := ih (q.filter (fun x => x != (n : Int))) (fun i hi => List.mem_filter.2 ⟨h i (by omega), by simp; omega⟩)
    have hc : 0 < q.count (n : Int) := List.count_pos_iff.2 (h n (by omega))
    have := len_filter q (n : Int)
    omega

/-- The state of Kahn's main loop: h nodes are done, d counts the edges from the others. -/
structure KInv (f : Nat → List Int) (n : Nat) (q : List Int) (h : Nat) (d : Nat → Int) : Prop where
  good : Good n q
  cnt : ∀ t : Nat, t < n → d t = (sumC f (fun a => !(q.take h).contains (a : Int)) t n : Nat)
  zero : ∀ t : Nat, t < n → ((t : Int) ∈ q ↔ d t = 0)

/-- .. in the middle of node x = q[h]: k of its edges are done. -/
structure KMid (f : Nat → List Int) (n : Nat) (q : List Int) (h x k : Nat) (d : Nat → Int) : Prop where
  good : Good n q
  lt : h < q.length
  cnt : ∀ t : Nat, t < n → d t = (sumC f (fun a => !(q.take (h + 1)).contains (a : Int)) t n : Nat) + (((f x).drop k).count (t : Int) : Nat)
  zero : ∀ t : Nat, t < n → ((t : Int) ∈ q ↔ d t = 0)

theorem KInv.begin {f : Nat → List Int} {n : Nat} {q : List Int} {h : Nat} {d : Nat → Int} (H : KInv f n q h d) (hh : h < q.length) {x : Nat} (hx : q[h] = (x : Int)) : x < n ∧ KMid f n q h x 0 d := by
  have hxn : x < n := by have := H.good.2 q[h] (List.getElem_mem hh); omega
  refine ⟨hxn, H.good, hh, fun t ht => ?_, H.zero⟩
  rw [H.cnt t ht]
  have hnot : (q.take h).contains (x : Int) = false := by
    apply Classical.byContradiction
    intro hc
    have hc' : (x : Int) ∈ q.take h := by simpa using hc
    obtain ⟨i, hi, he⟩ := List.mem_take_iff_getElem.1 hc'
    have hnd := H.good.1
    have hi' : i < q.length := by omega
    have e3 : q[i] = q[h] := he.trans hx.symm
    have := (List.getElem_inj (h₀ := hi') (h₁ := hh) hnd).1 e3
    omega
  have hin : (q.take (h + 1)).contains (x : Int) = true := by
    rw [List.take_succ_eq_append_getElem hh, hx]; simp
  have := sumC_out (f := f) (t := (t : Int)) (x := x) (k1 := fun a => !(q.take h).contains (a : Int)) (k2 := fun a => !(q.take (h + 1)).contains (a : Int)) (by simp only [hnot]; rfl) (by simp only [hin]; rfl) (fun a ha => by
    show (!(q.take (h + 1)).contains (a : Int)) = !(q.take h).contains (a : Int)
    rw [List.take_succ_eq_append_getElem hh, hx]
    have : ¬ (a : Int) = x := by omega
    simp [this]) n
  rw [this, if_pos hxn]
  simp

/-- One edge x -> t, the k-th of x's: d t falls by one; if it falls to nought t joins the queue. -/
theorem KMid.step {f : Nat → List Int} {n : Nat} {q : List Int} {h x k : Nat} {d : Nat → Int} (H : KMid f n q h x k d) (hk : k < (f x).length) {t : Nat} (ht : (f x)[k] = (t : Int)) (htn : t < n) :
    1 ≤ d t ∧ (d t - 1 ≠ 0 → KMid f n q h x (k + 1) (fun i => if i = t then d t - 1 else d i)) ∧ (d t - 1 = 0 → KMid f n (q ++ [(t : Int)]) h x (k + 1) (fun i => if i = t then d t - 1 else d i)) := by
  have hdrop : (f x).drop k = (f x)[k] :: (f x).drop (k + 1) := List.drop_eq_getElem_cons hk
  have hpos : 1 ≤ d t := by
    rw [H.cnt t htn, hdrop, ht, List.count_cons_self]; omega
  have htq : (t : Int) ∉ q := fun hm => by have := (H.zero t htn).1 hm; omega
  have hcnt : ∀ i : Nat, i < n → (if i = t then d t - 1 else d i) = (sumC f (fun a => !(q.take (h + 1)).contains (a : Int)) i n : Nat) + (((f x).drop (k + 1)).count (i : Int) : Nat) := fun i hi => by
    have hc := H.cnt i hi
    rw [hdrop, ht] at hc
    by_cases e : i = t
    · subst e
      rw [if_pos rfl, hc, List.count_cons_self]; omega
    · rw [if_neg e, hc, List.count_cons_of_ne (by omega)]
  refine ⟨hpos, fun h1 => ⟨H.good, H.lt, hcnt, fun i hi => ?_⟩, fun h1 => ⟨⟨?_, fun y hy => ?_⟩, by have := H.lt; simp; omega, fun i hi => ?_, fun i hi => ?_⟩⟩
  · by_cases e : i = t
    · subst e; simp only [if_true]; exact ⟨fun hm => absurd hm htq, fun h2 => absurd h2 h1⟩
    · simp only [if_neg e]; exact H.zero i hi
  · rw [List.nodup_append]
    refine ⟨H.good.1, by simp, fun a ha b hb => ?_⟩
    simp at hb
    subst hb
    exact fun e => htq (e ▸ ha)
  · rcases List.mem_append.1 hy with hy | hy
    · exact H.good.2 y hy
    · simp at hy; omega
  · have e1 : (q ++ [(t : Int)]).take (h + 1) = q.take (h + 1) := List.take_append_of_le_length (by have := H.lt; omega)
    rw [e1]; exact hcnt i hi
  · by_cases e : i = t
    · subst e; simp [h1]
    · have : ¬ (i : Int) = t := by omega
      simp only [if_neg e, List.mem_append, List.mem_singleton, this, or_false]; exact H.zero i hi

theorem KMid.finish {f : Nat → List Int} {n : Nat} {q : List Int} {h x : Nat} {d : Nat → Int} (H : KMid f n q h x (f x).length d) : KInv f n q (h + 1) d :=
  ⟨H.good, fun t ht => by rw [H.cnt t ht]; simp, H.zero⟩

/-- At the end, where edges lead upward in some rank, all nodes have come. -/
theorem KInv.all {f : Nat → List Int} {n : Nat} {q : List Int} {d : Nat → Int} (H : KInv f n q q.length d) (rank : Nat → Nat) (hr : ∀ a t : Nat, a < n → t < n → (t : Int) ∈ f a → rank a < rank t) : q.length = n := by
  have key : ∀ m t : Nat, rank t < m → t < n → (t : Int) ∈ q := by
    intro m
    induction m with
    | zero => intro t h; omega
    | succ m ih =>
      intro t hm ht
      apply Classical.byContradiction
      intro hn
      have hd : d t ≠ 0 := fun e => hn ((H.zero t ht).2 e)
      have hc := H.cnt t ht
      have hpos : 0 < sumC f (fun a => !(q.take q.length).contains (a : Int)) t n := by omega
      obtain ⟨a, ha, hk, hmem⟩ := sumC_pos n hpos
      have haq : (a : Int) ∉ q := by simpa using hk
      exact haq (ih a (by have := hr a t ha ht hmem; omega) ha)
  have h1 := all_bound n q (fun i hi => key (rank i + 1) i (by omega) hi)
  have h2 := nodup_bound n q H.good
  omega

/-- The second loop: the queue's start. -/
def zeros (d : Nat → Int) : Nat → List Int
  | 0 => []
  | n + 1 => zeros d n ++ (if d n = 0 then [(n : Int)] else [])
theorem zeros_mem (d : Nat → Int) : ∀ n (x : Int), x ∈ zeros d n ↔ ∃ i : Nat, i < n ∧ x = i ∧ d i = 0 := by
  intro n
  induction n with
  | zero => intro x; simp [zeros]
  | succ n ih =>
    intro x
    simp only [zeros, List.mem_append, ih]
    constructor
    · rintro (⟨i, hi, e, h⟩ | h)
      · exact ⟨i, by omega, e, h⟩
      · split at h
        · rename_i h0; simp at h; exact ⟨n, by omega, h, h0⟩
        · simp at h
    · rintro ⟨i, hi, e, h⟩
      by_cases hin : i = n
      · subst hin; right; rw [if_pos h]; simp [e]
      · left; exact ⟨i, by omega, e, h⟩
theorem zeros_good (d : Nat → Int) : ∀ n, Good n (zeros d n) := by
  intro n
  induction n with
  | zero => exact ⟨by simp [zeros], fun x hx => by simp [zeros] at hx⟩
  | succ n ih =>
    refine ⟨?_, fun x hx => ?_⟩
    · simp only [zeros]
      rw [List.nodup_append]
      refine ⟨ih.1, by split <;> simp, fun a ha b hb => ?_⟩
      have h1 := ih.2 a ha
      split at hb
      · simp at hb; omega
      · simp at hb
    · obtain ⟨i, hi, e, _⟩ := (zeros_mem d (n + 1) x).1 hx
      omega
theorem kinv_start {f : Nat → List Int} {n : Nat} {d : Nat → Int} (hd : ∀ t : Nat, t < n → d t = (cntTo f n 0 t : Nat)) : KInv f n (zeros d n) 0 d := by
  refine ⟨zeros_good d n, fun t ht => ?_, fun t ht => ?_⟩
  · rw [hd t ht, cntTo_end]
    congr 1
  · rw [zeros_mem]
    constructor
    · rintro ⟨i, hi, e, h⟩
      have : i = t := by omega
      subst this; exact h
    · intro h; exact ⟨t, ht, rfl, h⟩

end Go.Proofs.Qxb6602416a.Kahn
