/-
  Plain mathematics of the weft laws: no Go in sight.
-/
namespace Go.Proofs.Qxb6602416a.Plain

/-- The targets of x's edges, in the order in which they were added. -/
def sOf (E : List (Nat × Nat)) (x : Nat) : List Int := (E.filter (fun p => p.1 == x)).map (fun p => (p.2 : Int))
/-- The sources of the edges to y. -/
def pOf (E : List (Nat × Nat)) (y : Nat) : List Int := (E.filter (fun p => p.2 == y)).map (fun p => (p.1 : Int))
def addE (E : List (Nat × Nat)) (a : Int) (b : Nat) : List (Nat × Nat) := if 0 ≤ a ∧ a ≠ b then E ++ [(a.toNat, b)] else E
/-- 'appendOnce'. -/
def once (xs : List Int) (t : Int) : List Int := if xs.getLast? = some t then xs else xs ++ [t]

/-- The IDs of the committed txns, in their order: (ID, status). -/
def cids (ts : List (Int × Int)) : List Int := (ts.filter (fun t => t.2 == 1)).map (·.1)
theorem cids_take_succ (ts : List (Int × Int)) (k : Nat) (h : k < ts.length) : cids (ts.take (k + 1)) = cids (ts.take k) ++ (if (ts.getD k (0, 0)).2 = 1 then [(ts.getD k (0, 0)).1] else []) := by
  have e : ts.getD k (0, 0) = ts[k] := by simp [List.getD, h]
  have e2 : ts.take (k + 1) = ts.take k ++ [ts[k]] := List.take_succ_eq_append_getElem h
  rw [e, e2]
  generalize ts[k] = x
  by_cases h1 : x.2 = 1
  · simp only [cids, List.filter_append, List.map_append, if_pos h1]; simp [h1]
  · simp only [cids, List.filter_append, List.map_append, if_neg h1]; simp [h1]
theorem cids_le (ts : List (Int × Int)) : (cids ts).length ≤ ts.length := by simp only [cids, List.length_map]; exact List.length_filter_le _ _

theorem sOf_snoc (E : List (Nat × Nat)) (a b x : Nat) : sOf (E ++ [(a, b)]) x = sOf E x ++ (if a = x then [(b : Int)] else []) := by
  by_cases h : a = x <;> simp [sOf, List.filter_append, h]
theorem pOf_snoc (E : List (Nat × Nat)) (a b y : Nat) : pOf (E ++ [(a, b)]) y = pOf E y ++ (if b = y then [(a : Int)] else []) := by
  by_cases h : b = y <;> simp [pOf, List.filter_append, h]
theorem sOf_le (E : List (Nat × Nat)) (x : Nat) : (sOf E x).length ≤ E.length := by simp only [sOf, List.length_map]; exact List.length_filter_le _ _
theorem pOf_le (E : List (Nat × Nat)) (x : Nat) : (pOf E x).length ≤ E.length := by simp only [pOf, List.length_map]; exact List.length_filter_le _ _

end Go.Proofs.Qxb6602416a.Plain
