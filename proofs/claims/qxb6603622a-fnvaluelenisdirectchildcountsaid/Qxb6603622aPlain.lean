import Derived.Test.Qxb6603622aDoc
namespace Go.Proofs.Qxb6603622a
open Go.RowKit
set_option linter.unusedVariables false

def upd (ch : Nat → Nat) (t v : Nat) : Nat → Nat := fun j => if j = t then v else ch j
theorem upd_same (ch : Nat → Nat) (t v : Nat) : upd ch t v t = v := by simp [upd]
theorem upd_ne (ch : Nat → Nat) (t v j : Nat) (h : j ≠ t) : upd ch t v j = ch j := by simp [upd, h]

section
variable (n : Nat) (kd : Nat → Int) (nx : Nat → Nat)

def Ok1 (j : Nat) : Prop := 1 ≤ kd j ∧ kd j ≤ 6 ∧ j < nx j ∧ nx j ≤ n ∧ (kd j ≠ 5 → kd j ≠ 6 → nx j = j + 1)
def Holds (j : Nat) : Prop := kd j = 5 ∨ kd j = 6
/-- The first c nodes of the walk behind t lie inside t; of an object's each second one is a name. -/
def Good (t c : Nat) : Prop := (∀ j, j < c → wk nx t j < nx t) ∧ (kd t = 6 → ∀ j, j < c → j % 2 = 0 → kd (wk nx t j) = 4)
def Closed (t c : Nat) : Prop := wk nx t c = nx t ∧ Good kd nx t c ∧ (kd t = 6 → c % 2 = 0)
/-- The stack (top first): the walk behind its top has come to p. -/
def SInv (ch : Nat → Nat) : List Nat → Nat → Prop
  | [], _ => True
  | t :: r, p => wk nx t (ch t) = p ∧ p ≤ nx t ∧ Good kd nx t (ch t) ∧ Holds kd t ∧ SInv ch r (nx t)
theorem SInv.congr {ch ch' : Nat → Nat} : ∀ {st : List Nat} {p : Nat}, (∀ t ∈ st, ch' t = ch t) → SInv kd nx ch st p → SInv kd nx ch' st p
  | [], _, _, _ => trivial
  | t :: r, p, h, ⟨h1, h2, h3, h4, h5⟩ => by
    have e : ch' t = ch t := h t (by simp)
    exact ⟨by rw [e]; exact h1, h2, by rw [e]; exact h3, h4, SInv.congr (fun s hs => h s (by simp [hs])) h5⟩

/-- What holds when the loop comes to node i. -/
structure PInv (i : Nat) (st : List Nat) (ch : Nat → Nat) : Prop where
  ok : ∀ j, j < i → Ok1 n kd nx j
  s : SInv kd nx ch st i
  lt : ∀ t ∈ st, t < i
  cl : ∀ t, t < i → Holds kd t → t ∈ st ∨ Closed kd nx t (ch t)
  zero : ∀ t, i ≤ t → ch t = 0
  le : ∀ t, ch t ≤ i
  dec : st.Pairwise (fun a b => b < a)
  len : st.length ≤ i

variable {n : Nat} {kd : Nat → Int} {nx : Nat → Nat}
theorem PInv.start : PInv n kd nx 0 [] (fun _ => 0) :=
  ⟨fun j h => by omega, trivial, fun t h => by simp at h, fun t h => by omega, fun _ _ => rfl, fun _ => Nat.le_refl _, List.Pairwise.nil, Nat.le_refl _⟩

/-- A container whose span is over is closed and leaves the stack. -/
theorem PInv.pop {i : Nat} {t : Nat} {r : List Nat} {ch : Nat → Nat} (h : PInv n kd nx i (t :: r) ch) (hp : nx t ≤ i) (hev : kd t = 6 → ch t % 2 = 0) : PInv n kd nx i r ch := by
  obtain ⟨h1, h2, h3, h4, h5⟩ := h.s
  have e : nx t = i := by omega
  refine ⟨h.ok, by rw [← e]; exact h5, fun s hs => h.lt s (by simp [hs]), fun s hs hh => ?_, h.zero, h.le, (List.pairwise_cons.1 h.dec).2, by have := h.len; simp at this; omega⟩
  rcases h.cl s hs hh with hm | hc
  · rcases List.mem_cons.1 hm with rfl | hm
    · exact Or.inr ⟨by rw [h1, e], h3, hev⟩
    · exact Or.inl hm
  · exact Or.inr hc

theorem PInv.tail {i : Nat} {st : List Nat} {ch ch' : Nat → Nat} (h : PInv n kd nx i st ch) (hi : Ok1 n kd nx i)
    (hs : SInv kd nx ch' st (nx i)) (hcl : ∀ t, t < i → Holds kd t → t ∈ st ∨ Closed kd nx t (ch' t)) (hz : ∀ t, i ≤ t → ch' t = 0) (hle : ∀ t, ch' t ≤ i + 1) :
    (¬ Holds kd i → PInv n kd nx (i + 1) st ch') ∧ (Holds kd i → PInv n kd nx (i + 1) (i :: st) ch') := by
  have hok : ∀ j, j < i + 1 → Ok1 n kd nx j := fun j hj => by
    rcases Nat.lt_succ_iff_lt_or_eq.1 hj with h' | rfl
    · exact h.ok j h'
    · exact hi
  refine ⟨fun hh => ?_, fun hh => ?_⟩
  · have e : nx i = i + 1 := hi.2.2.2.2 (fun e => hh (Or.inl e)) (fun e => hh (Or.inr e))
    refine ⟨hok, by rw [← e]; exact hs, fun t ht => by have := h.lt t ht; omega, fun t ht hc => ?_, fun t ht => hz t (by omega), hle, h.dec, by have := h.len; omega⟩
    rcases Nat.lt_succ_iff_lt_or_eq.1 ht with h' | rfl
    · exact hcl t h' hc
    · exact absurd hc hh
  · have hci : ch' i = 0 := hz i (Nat.le_refl _)
    refine ⟨hok, ⟨by rw [hci]; rfl, by have := hi.2.2.1; omega, by rw [hci]; exact ⟨fun j hj => by omega, fun _ j hj => by omega⟩, hh, hs⟩, fun t ht => ?_, fun t ht hc => ?_, fun t ht => hz t (by omega), hle, List.pairwise_cons.2 ⟨fun t ht => h.lt t ht, h.dec⟩, by have := h.len; simp; omega⟩
    · rcases List.mem_cons.1 ht with rfl | h'
      · omega
      · have := h.lt t h'; omega
    · rcases Nat.lt_succ_iff_lt_or_eq.1 ht with h' | rfl
      · rcases hcl t h' hc with hm | hc'
        · exact Or.inl (List.mem_cons_of_mem _ hm)
        · exact Or.inr hc'
      · exact Or.inl (by simp)

/-- Node i is the next child of the stack's top. -/
theorem PInv.child {i : Nat} {t : Nat} {r : List Nat} {ch : Nat → Nat} (h : PInv n kd nx i (t :: r) ch) (hi : Ok1 n kd nx i) (hp : i < nx t) (he : nx i ≤ nx t) (hnm : kd t = 6 → ch t % 2 = 0 → kd i = 4) :
    (¬ Holds kd i → PInv n kd nx (i + 1) (t :: r) (upd ch t (ch t + 1))) ∧ (Holds kd i → PInv n kd nx (i + 1) (i :: t :: r) (upd ch t (ch t + 1))) := by
  obtain ⟨h1, h2, h3, h4, h5⟩ := h.s
  have hti : t < i := h.lt t (by simp)
  have hgood : Good kd nx t (ch t + 1) := by
    refine ⟨fun j hj => ?_, fun h6 j hj hev => ?_⟩
    · rcases Nat.lt_succ_iff_lt_or_eq.1 hj with h' | rfl
      · exact h3.1 j h'
      · rw [h1]; exact hp
    · rcases Nat.lt_succ_iff_lt_or_eq.1 hj with h' | rfl
      · exact h3.2 h6 j h' hev
      · rw [h1]; exact hnm h6 hev
  refine h.tail hi ?_ (fun s hs hc => ?_) (fun s hs => ?_) (fun s => ?_)
  · refine ⟨?_, he, ?_, h4, ?_⟩
    · rw [upd_same]; show nx (wk nx t (ch t)) = nx i; rw [h1]
    · rw [upd_same]; exact hgood
    · refine SInv.congr kd nx (fun s hs => upd_ne _ _ _ _ ?_) h5
      have := (List.pairwise_cons.1 h.dec).1 s hs
      omega
  · by_cases hst : s = t
    · exact Or.inl (by simp [hst])
    · rw [upd_ne _ _ _ _ hst]; exact h.cl s hs hc
  · rw [upd_ne _ _ _ _ (by omega)]; exact h.zero s hs
  · have := h.le s
    by_cases hst : s = t
    · subst hst; rw [upd_same]; omega
    · rw [upd_ne _ _ _ _ hst]; omega

/-- The root. -/
theorem PInv.root {ch : Nat → Nat} (h : PInv n kd nx 0 [] ch) (hi : Ok1 n kd nx 0) :
    (¬ Holds kd 0 → PInv n kd nx (0 + 1) [] ch) ∧ (Holds kd 0 → PInv n kd nx (0 + 1) [0] ch) :=
  h.tail hi trivial (fun t ht => by omega) (fun t ht => h.zero t ht) (fun t => by have := h.le t; omega)

theorem PInv.root' {k : Nat} {ch : Nat → Nat} (hk : k = 0) (h : PInv n kd nx k [] ch) (hi : Ok1 n kd nx k) :
    (¬ Holds kd k → PInv n kd nx (k + 1) [] ch) ∧ (Holds kd k → PInv n kd nx (k + 1) [k] ch) := by
  subst hk
  exact h.root hi
/-- What zzShape tells. -/
def Shaped (n : Nat) (kd : Nat → Int) (nx : Nat → Nat) (ch : Nat → Nat) : Prop := (∀ j, j < n → Ok1 n kd nx j) ∧ (∀ t, t < n → Holds kd t → Closed kd nx t (ch t)) ∧ ∀ t, ch t ≤ n
theorem PInv.done {ch : Nat → Nat} (h : PInv n kd nx n [] ch) : Shaped n kd nx ch :=
  ⟨h.ok, fun t ht hh => (h.cl t ht hh).elim (fun hm => by simp at hm) id, h.le⟩
/-- Behind the last node each container on the stack is at its end. -/
theorem PInv.last {t : Nat} {r : List Nat} {ch : Nat → Nat} (h : PInv n kd nx n (t :: r) ch) : nx t ≤ n := (h.ok t (h.lt t (by simp))).2.2.2.1

theorem mw_wk {t c : Nat} (hok : ∀ j, j < n → Ok1 n kd nx j) (hle : nx t ≤ n) (h6 : kd t = 6) (hg : Good kd nx t c) : ∀ j, 2 * j ≤ c → mw nx t j = wk nx t (2 * j) := by
  intro j
  induction j with
  | zero => intro _; rfl
  | succ j ih =>
    intro hj
    have e := ih (by omega)
    have hl := hg.1 (2 * j) (by omega)
    have h4 := hg.2 h6 (2 * j) (by omega) (by omega)
    have hs := (hok (wk nx t (2 * j)) (by omega)).2.2.2.2 (by omega) (by omega)
    show nx (mw nx t j + 1) = wk nx t (2 * j + 1 + 1)
    rw [e, ← hs]
    rfl
theorem mw_next {t c : Nat} (hok : ∀ j, j < n → Ok1 n kd nx j) (hle : nx t ≤ n) (h6 : kd t = 6) (hg : Good kd nx t c) (j : Nat) (hj : 2 * j + 1 < c) : mw nx t j + 1 < n := by
  have e := mw_wk hok hle h6 hg j (by omega)
  have hl := hg.1 (2 * j) (by omega)
  have h4 := hg.2 h6 (2 * j) (by omega) (by omega)
  have hs := (hok (wk nx t (2 * j)) (by omega)).2.2.2.2 (by omega) (by omega)
  have h2 := hg.1 (2 * j + 1) hj
  have e2 : wk nx t (2 * j + 1) = nx (wk nx t (2 * j)) := rfl
  omega
end

end Go.Proofs.Qxb6603622a
