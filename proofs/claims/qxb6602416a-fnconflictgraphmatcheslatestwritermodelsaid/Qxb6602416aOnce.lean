import Derived.Test.Qxb6602416aHeap
import Derived.Test.Qxb6602416aPlain
namespace Go.Proofs.Qxb6602416a
open Go.RowKit
set_option linter.unusedVariables false

/-- An append of one number to a row: what it does to the tags. -/
theorem RowT.push {own : Nat → Tag} {w w0 w1 : World} {t : Tag} {g cap : Nat} {xs : List Int} {v : Value} {x : Int}
    (h : RowT own w t v xs) (h0 : Fr (fun _ => False) own own w w0)
    (hown : w1.ownsRow 0 3 1 (.slice (some ⟨g, 0, none⟩) (xs.length + 1) cap) (xs.length + 1) (xs.map (Value.int .i64) ++ [.int .i64 x]))
    (hgrow : w0.grownBy w1 v.ownBlock) (hat : v.ownBlock = some g ∨ g = w0.heap.size) :
    ∃ own', Fr (fun u => u = t) own own' w w1 ∧ RowT own' w1 t (.slice (some ⟨g, 0, none⟩) (xs.length + 1) cap) (xs ++ [x]) := by
  have hgo : g < w.heap.size → own g = t := fun hg => by
    rcases hat with h' | h'
    · exact h.2 g h'
    · have := h0.size; omega
  refine ⟨fun b => if b = g then t else own b, ⟨hgrow.os.trans h0.os, hgrow.tape.trans h0.tape, hgrow.output.trans h0.output, Nat.le_trans h0.size hgrow.size, fun b hb => ?_, fun b hb hm => ?_⟩, ?_, fun g' hg' => ?_⟩
  · by_cases hbg : b = g
    · subst hbg; simp [hgo hb]
    · simp [hbg]
  · have hs := h0.size
    have hbv : some b ≠ v.ownBlock := fun e => hm (h.2 b e.symm)
    rw [hgrow.block b (by omega) hbv, h0.block b hb (fun x => x)]
  · simpa using hown
  · simp only [Value.ownBlock, Option.some.injEq] at hg'
    simp [← hg']

theorem getLast?_getD (xs : List Int) (h : 0 < xs.length) : xs.getLast? = some (xs.getD (xs.length - 1) 0) := by
  rw [List.getLast?_eq_getElem?]
  simp [List.getD, show xs.length - 1 < xs.length by omega]

set_option maxHeartbeats 400000 in
theorem appendOnce_any (own : Nat → Tag) (w : World) (t : Tag) (v : Value) (xs : List Int) (x : Int) (h : RowT own w t v xs) (hl : xs.length ≤ 100000000) :
    Calls Try.prog 29 #[v, .int .i64 x] w fun e w' => ∃ own' v', e = .returned v' ∧ Fr (fun u => u = t) own own' w w' ∧ RowT own' w' t v' (Plain.once xs x) := by
  obtain ⟨i0, hi, hz0, hz1, hz2⟩ := info_parts Try.info3
  obtain ⟨a, cap, rfl, hc⟩ := h.form
  by_cases h0 : 0 < xs.length
  · obtain ⟨b, off, rfl, hcc⟩ := hc h0
    have hc1 := hcc (xs.length - 1) (by omega)
    obtain ⟨z, hz⟩ : ∃ z, xs.getD (xs.length - 1) 0 = z := ⟨_, rfl⟩
    rw [hz] at hc1
    have hlast : Hid (xs.getLast? = some z) := by rw [← hz]; exact getLast?_getD xs h0
    clear hz
    by_cases hx : (z == x) = true
    · go_enter Try.func29, Try.ntmps29
      go_wp2
      go_ret
      have e1 : Plain.once xs x = xs := by simp only [Plain.once]; rw [if_pos (by rw [hlast.out]; simpa using hx)]
      rw [e1]
      exact ⟨own, _, rfl, Fr.refl _ _ _, h⟩
    · have hx' : (z == x) = false := eq_false_of_ne_true hx
      clear hx
      go_enter Try.func29, Try.ntmps29
      go_wp2_with (at_builtin; refine wpList_append_lies _ rfl _ _ 22 rfl 0 3 i0 (.int .i64 0) 1 8 Try.underlying22 hi hz0 hz1 hz2 rfl (by decide) (.slice (some ⟨b, off, none⟩) xs.length cap) xs.length (xs.map (Value.int .i64)) rfl (by exact h.1.alloc _) ⟨w.heap.size, 0, none⟩ 1 1 [.int .i64 x] rfl rfl (by exact cell_one_new _ _ _) (ints_oneCell .i64 [x]) (by decide) (by unfold maxLen; omega) (by omega) (Nat.zero_le _) (w.heap.size + 1) (by simp) ?_; intro g cp w1 hown hgrow hat hlt)
      go_ret
      obtain ⟨own', F, R⟩ := h.push ((Fr.refl _ _ _).alloc0 _) (by exact hown) (by exact hgrow) (by simpa using hat)
      have e1 : Plain.once xs x = xs ++ [x] := by simp only [Plain.once]; rw [if_neg (by rw [hlast.out]; simpa using hx')]
      rw [e1]
      exact ⟨own', _, rfl, F, R⟩
  · have h00 : xs = [] := List.eq_nil_of_length_eq_zero (by omega)
    subst h00
    clear h0 hc hl
    go_enter Try.func29, Try.ntmps29
    go_wp2_with (at_builtin; refine wpList_append_lies _ rfl _ _ 22 rfl 0 3 i0 (.int .i64 0) 1 8 Try.underlying22 hi hz0 hz1 hz2 rfl (by decide) (.slice a 0 cap) 0 [] rfl (by exact h.1.alloc _) ⟨w.heap.size, 0, none⟩ 1 1 [.int .i64 x] rfl rfl (by exact cell_one_new _ _ _) (ints_oneCell .i64 [x]) (by decide) (by unfold maxLen; omega) (by omega) (Nat.zero_le _) (w.heap.size + 1) (by simp) ?_; intro g cp w1 hown hgrow hat hlt)
    go_ret
    obtain ⟨own', F, R⟩ := h.push ((Fr.refl _ _ _).alloc0 _) (by exact hown) (by exact hgrow) (by simpa using hat)
    exact ⟨own', _, rfl, F, R⟩

end Go.Proofs.Qxb6602416a
