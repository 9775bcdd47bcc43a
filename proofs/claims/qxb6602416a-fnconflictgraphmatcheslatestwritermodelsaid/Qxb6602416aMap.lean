import Derived.Test.Qxb6602416aHeap
import Derived.Maps.Own
import Derived.Maps.OwnOps
import Derived.Maps.OwnSet
namespace Go.Proofs.Qxb6602416a
open Go.RowKit
set_option linter.unusedSectionVars false
set_option linter.unusedSimpArgs false

/-- A map's entries, in the order in which they were first stored. -/
def mget {α : Type} [DecidableEq α] : List (α × Value) → α → Option Value
  | [], _ => none
  | p :: l, k => if p.1 = k then some p.2 else mget l k
def mput {α : Type} [DecidableEq α] : List (α × Value) → α → Value → List (α × Value)
  | [], k, v => [(k, v)]
  | p :: l, k, v => if p.1 = k then (k, v) :: l else p :: mput l k v

section
variable {α : Type} [DecidableEq α]
theorem mget_put_same (l : List (α × Value)) (k : α) (v : Value) : mget (mput l k v) k = some v := by
  induction l with
  | nil => simp [mput, mget]
  | cons p l ih =>
    by_cases h : p.1 = k
    · simp [mput, mget, h]
    · simp [mput, mget, h, ih]
theorem mget_put_other (l : List (α × Value)) (k k' : α) (v : Value) (hne : k ≠ k') : mget (mput l k v) k' = mget l k' := by
  induction l with
  | nil => simp [mput, mget, hne]
  | cons p l ih =>
    by_cases h : p.1 = k
    · simp only [mput, h, if_true, mget]; rw [if_neg hne, if_neg hne]
    · simp only [mput, if_neg h, mget, ih]
theorem mput_length (l : List (α × Value)) (k : α) (v : Value) : (mput l k v).length = if (mget l k).isSome then l.length else l.length + 1 := by
  induction l with
  | nil => simp [mput, mget]
  | cons p l ih =>
    by_cases h : p.1 = k
    · simp [mput, mget, h]
    · simp only [mput, if_neg h, mget, List.length_cons, ih]; split <;> rfl
theorem mget_none_iff (l : List (α × Value)) (k : α) : mget l k = none ↔ ∀ p ∈ l, p.1 ≠ k := by
  induction l with
  | nil => simp [mget]
  | cons p l ih =>
    by_cases h : p.1 = k
    · simp [mget, h]
    · simp [mget, h, ih]

/-- What a key's type must give. -/
structure KeyOk (P : Program) (kt : TypeId) (enc : α → Value) : Prop where
  find : ∃ d, P.underlying kt = some d ∧ ∀ a b, Instr.sameNow d (enc a) (enc b) = some (decide (a = b))
  check : ∀ (b : Bool) (a : α) (w : World), (Instr.checkKey b 10000 kt (enc a)).run P w = .ok () w
  bits : ∀ a, Instr.sameBits 10000 (enc a) (enc a) = true

/-- Block m is a map with the entries l. -/
def MapAt (enc : α → Value) (w : World) (m : Nat) (l : List (α × Value)) : Prop :=
  ∃ (es : Array MapEntry) (clock : Nat), w.heap[m]? = some (.map es clock) ∧ es.toList.map (fun e => (e.key, e.val)) = l.map (fun p => (enc p.1, p.2))

theorem MapAt.fr {enc : α → Value} {may : Tag → Prop} {o1 o2 : Nat → Tag} {w1 w2 : World} {m : Nat} {l : List (α × Value)} (h : MapAt enc w1 m l) (hf : Fr may o1 o2 w1 w2) (hm : ¬ may (o1 m)) : MapAt enc w2 m l := by
  obtain ⟨es, clock, hh, hl⟩ := h
  exact ⟨es, clock, hf.heap hh hm, hl⟩
theorem MapAt.lt {enc : α → Value} {w : World} {m : Nat} {l : List (α × Value)} (h : MapAt enc w m l) : m < w.heap.size := by
  obtain ⟨es, clock, hh, _⟩ := h
  exact lt_of_heap hh

variable {P : Program} {kt : TypeId} {enc : α → Value}

theorem findNow_miss {d : TypeDesc} (hd : ∀ a b, Instr.sameNow d (enc a) (enc b) = some (decide (a = b))) (k : α) :
    ∀ (l : List (α × Value)) (es : List MapEntry) (i : Nat), es.map (fun e => (e.key, e.val)) = l.map (fun p => (enc p.1, p.2)) → mget l k = none → Instr.findNow d (enc k) es i = some none := by
  intro l
  induction l with
  | nil => intro es i h _; cases es with
    | nil => rfl
    | cons _ _ => simp at h
  | cons p l ih =>
    intro es i h hn
    cases es with
    | nil => simp at h
    | cons e es =>
      simp only [List.map_cons, List.cons.injEq, Prod.mk.injEq] at h
      obtain ⟨⟨hk, hv⟩, ht⟩ := h
      have hne : p.1 ≠ k := fun e' => by simp [mget, e'] at hn
      have hn' : mget l k = none := by simpa [mget, hne] using hn
      unfold Instr.findNow
      rw [hk, hd, decide_eq_false (Ne.symm hne)]
      exact ih es (i + 1) ht hn'

theorem findNow_hit {d : TypeDesc} (hd : ∀ a b, Instr.sameNow d (enc a) (enc b) = some (decide (a = b))) (k : α) (v : Value) :
    ∀ (l : List (α × Value)) (es : List MapEntry) (i : Nat), es.map (fun e => (e.key, e.val)) = l.map (fun p => (enc p.1, p.2)) → mget l k = some v →
      ∃ j, Instr.findNow d (enc k) es i = some (some (i + j, v)) ∧ (es[j]?).map (·.key) = some (enc k) ∧
        ∀ (x : Value), (es.modify j (fun e => { e with key := enc k, val := x })).map (fun e => (e.key, e.val)) = (mput l k x).map (fun p => (enc p.1, p.2)) := by
  intro l
  induction l with
  | nil => intro es i h hn; simp [mget] at hn
  | cons p l ih =>
    intro es i h hn
    cases es with
    | nil => simp at h
    | cons e es =>
      simp only [List.map_cons, List.cons.injEq, Prod.mk.injEq] at h
      obtain ⟨⟨hk, hv⟩, ht⟩ := h
      by_cases hp : p.1 = k
      · refine ⟨0, ?_, ?_, ?_⟩
        · unfold Instr.findNow
          rw [hk, hd, decide_eq_true hp.symm]
          simp [mget, hp] at hn
          simp [hv, hn]
        · simp [hk, hp]
        · intro x; simp [mput, hp, ht]
      · have hn' : mget l k = some v := by simpa [mget, hp] using hn
        obtain ⟨j, h1, h2, h3⟩ := ih es (i + 1) ht hn'
        refine ⟨j + 1, ?_, ?_, ?_⟩
        · unfold Instr.findNow
          rw [hk, hd, decide_eq_false (Ne.symm hp)]
          rw [show i + (j + 1) = i + 1 + j by omega]
          exact h1
        · simpa using h2
        · intro x; simp only [mput, if_neg hp, List.map_cons, List.modify_succ_cons]; rw [h3 x, hk, hv]

/-- 'm[k]', with and without 'ok'. -/
theorem MapAt.look {w : World} {m : Nat} {l : List (α × Value)} (h : MapAt enc w m l) (K : KeyOk P kt enc) {t e : TypeId} (ht : P.underlying t = some (.map kt e)) {z : Value} (hz : (zeroValue e).run P w = .ok z w) (k : α) (c : Bool) :
    (Instr.lookup t (.map (some m)) (enc k) c).run P w = .ok (if c then .tuple #[(mget l k).getD z, .bool (mget l k).isSome] else (mget l k).getD z) w := by
  obtain ⟨es, clock, hh, hl⟩ := h
  obtain ⟨d, hd, hs⟩ := K.find
  cases hg : mget l k with
  | none =>
    have hf := findNow_miss hs k l es.toList 0 hl hg
    simp [Instr.lookup, run_underlying ht, MapKept.run_getObj_map hh, K.check, MapKept.run_findKey hd hf, hz, Result.andThen]
  | some v =>
    obtain ⟨j, hf, _, _⟩ := findNow_hit hs k v l es.toList 0 hl hg
    simp [Instr.lookup, run_underlying ht, MapKept.run_getObj_map hh, K.check, MapKept.run_findKey hd hf, Result.andThen]

/-- 'm[k] = v'. -/
theorem MapAt.store {w : World} {m : Nat} {l : List (α × Value)} (h : MapAt enc w m l) (K : KeyOk P kt enc) {t e : TypeId} (ht : P.underlying t = some (.map kt e)) (k : α) (x : Value) :
    ∃ o, (Instr.mapUpdate t (.map (some m)) (enc k) x).run P w = .ok () (ChangeMaps.setBlock w m o) ∧ MapAt enc (ChangeMaps.setBlock w m o) m (mput l k x) ∧ w.grownBy (ChangeMaps.setBlock w m o) (some m) := by
  obtain ⟨es, clock, hh, hl⟩ := h
  obtain ⟨d, hd, hs⟩ := K.find
  have hgr : ∀ o, w.grownBy (ChangeMaps.setBlock w m o) (some m) := fun o =>
    ⟨rfl, rfl, rfl, by simp [ChangeMaps.setBlock], fun k' _ hne => ChangeMaps.heap_setBlock_other hh o (fun e' => hne (by rw [e']))⟩
  cases hg : mget l k with
  | none =>
    have hf := findNow_miss hs k l es.toList 0 hl hg
    refine ⟨.map (es.push { key := enc k, val := x, born := clock }) (clock + 1), ?_, ⟨_, _, ChangeMaps.heap_setBlock_same hh _, ?_⟩, hgr _⟩
    · simp [Instr.mapUpdate, run_underlying ht, MapKept.run_getObj_map hh, K.check, MapKept.run_findKey hd hf, MapKept.run_setObj_map _ hh, Result.andThen, ChangeMaps.setBlock]
    · have e1 : mput l k x = l ++ [(k, x)] := by
        clear hf hl
        induction l with
        | nil => rfl
        | cons p l ih =>
          have hne : p.1 ≠ k := fun e' => by simp [mget, e'] at hg
          have hn' : mget l k = none := by simpa [mget, hne] using hg
          simp [mput, hne, ih hn']
      rw [e1]
      simp [hl]
  | some v =>
    obtain ⟨j, hf, hj, hm⟩ := findNow_hit hs k v l es.toList 0 hl hg
    refine ⟨.map (es.modify j fun e => { e with key := enc k, val := x }) clock, ?_, ⟨_, _, ChangeMaps.heap_setBlock_same hh _, ?_⟩, hgr _⟩
    · have hj' : (es[j]?).map (·.key) = some (enc k) := by simpa using hj
      have hk : (Instr.keyThatStays (((es[j]?).map (·.key)).getD (enc k)) (enc k)).run P w = .ok (enc k) w := by
        rw [hj']; simp [Instr.keyThatStays, K.bits]
      simp only [Nat.zero_add] at hf
      simp [Instr.mapUpdate, run_underlying ht, MapKept.run_getObj_map hh, K.check, MapKept.run_findKey hd hf]
      rw [hk]
      simp [MapKept.run_setObj_map _ hh, ChangeMaps.setBlock]
    · have := hm x
      simpa using this

theorem MapAt.len {w : World} {m : Nat} {l : List (α × Value)} (h : MapAt enc w m l) {t e k : TypeId} (ht : P.underlying t = some (.map k e)) (ty : TypeId) : (Builtin.len_ #[t] ty #[.map (some m)]).run P w = .ok (.int .i64 (l.length : Nat)) w := by
  obtain ⟨es, clock, hh, hl⟩ := h
  have e1 : es.size = l.length := by have := congrArg List.length hl; simpa using this
  simp [Builtin.len_, run_underlying ht, MapKept.run_getObj_map hh, goInt, Result.andThen, e1]

theorem MapAt.made (w : World) : MapAt enc (w.alloc (.map #[] 0)) w.heap.size [] := ⟨#[], 0, (MapKept.heap_alloc w _).1, by simp⟩

section
variable {w : World} {ops : Array Oper} {rest : List Oper} {o : Oper} {a : Act} {Q : Exit → Act → World → Prop}

theorem wpList_mput (hg : o.guard = none) (m x v : Operand) (t : TypeId) (hop : o.op = Op.mapUpdate t m x v) (e : TypeId) (K : KeyOk P kt enc) (ht : P.underlying t = some (.map kt e)) (b : Nat) (l : List (α × Value))
    (hm : a.eval m = .map (some b)) (hat : MapAt enc w b l) (k : α) (val : Value) (hx : a.eval x = enc k) (hv : a.eval v = val)
    (hK : ∀ w', MapAt enc w' b (mput l k val) → w.grownBy w' (some b) → wpList P ops Q rest (a.put o.dst undef) w') : wpList P ops Q (o :: rest) a w := by
  refine wpList_plain hg fun K' hK' => ?_
  obtain ⟨ob, hrun, r1, r2⟩ := hat.store K ht k val
  unfold Oper.wp
  simp [execOp, hop, hm, hx, hv, hrun, Result.andThen]
  exact hK' _ _ (hK _ r1 r2)

theorem wpList_mget (hg : o.guard = none) (m x : Operand) (t : TypeId) (c : Bool) (hop : o.op = Op.lookup t m x c) (e : TypeId) (K : KeyOk P kt enc) (ht : P.underlying t = some (.map kt e)) (z : Value) (hz : (zeroValue e).run P w = .ok z w) (b : Nat) (l : List (α × Value))
    (hm : a.eval m = .map (some b)) (hat : MapAt enc w b l) (k : α) (hx : a.eval x = enc k) (val : Value) (hval : (if c then .tuple #[(mget l k).getD z, .bool (mget l k).isSome] else (mget l k).getD z) = val)
    (hK : wpList P ops Q rest (a.put o.dst val) w) : wpList P ops Q (o :: rest) a w := by
  refine wpList_plain hg fun K' hK' => ?_
  have hrun := hat.look K ht hz k c
  rw [hval] at hrun
  unfold Oper.wp
  simp [execOp, hop, hm, hx, hrun, Result.andThen]
  exact hK' _ _ hK
end

end

theorem key_int {P : Program} {kt : TypeId} (h : P.underlying kt = some (.int .i64)) : KeyOk P kt (Value.int .i64) where
  find := ⟨_, h, fun a b => by simp only [Instr.sameNow, if_true, Option.some.injEq]; rw [Bool.eq_iff_iff]; simp⟩
  check := fun b a w => MapKept.run_checkKey h (by simp [MapKept.IsKey]) b 9999
  bits := fun a => by simp [Instr.sameBits]
theorem key_string {P : Program} {kt : TypeId} (h : P.underlying kt = some .string) : KeyOk P kt Value.string where
  find := ⟨_, h, fun a b => by simp only [Instr.sameNow, Option.some.injEq]; rw [Bool.eq_iff_iff, MapKept.bytes_beq]; simp⟩
  check := fun b a w => MapKept.run_checkKey h (by simp [MapKept.IsKey]) b 9999
  bits := fun a => by simp [Instr.sameBits, (MapKept.bytes_beq a a).2 rfl]

end Go.Proofs.Qxb6602416a
