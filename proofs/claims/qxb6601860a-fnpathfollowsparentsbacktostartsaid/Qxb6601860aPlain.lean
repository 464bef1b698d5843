/-
  The plain mathematics of this seat: the way from a node along the parents to a goal. No Go in sight.
-/
namespace Go.Proofs.Qxb6601860a

/-- The way from 'node' to 'goal' is l (the goal itself left out): each node of l is no goal, lies within both lists, and is followed by its parent. -/
def Way (par : List Int) (nT : Nat) (goal : Int) : Int → List Int → Prop
  | node, [] => node = goal
  | node, n :: r => node = n ∧ node ≠ goal ∧ 0 ≤ node ∧ node < nT ∧ node < par.length ∧ Way par nT goal (par.getD node.toNat 0 - 1) r

variable {par : List Int} {nT : Nat} {goal : Int}

/-- A way's first node is the goal or lies within the first list. -/
theorem Way.range {node : Int} {l : List Int} (h : Way par nT goal node l) (hg : 0 ≤ goal ∧ goal < nT) : 0 ≤ node ∧ node < nT := by
  cases l with
  | nil => have : node = goal := h; omega
  | cons n r => exact ⟨h.2.2.1, h.2.2.2.1⟩

theorem Way.step {node : Int} {l : List Int} (h : Way par nT goal node l) (hne : node ≠ goal) : ∃ r, l = node :: r ∧ 0 ≤ node ∧ node < nT ∧ node < par.length ∧ Way par nT goal (par.getD node.toNat 0 - 1) r := by
  cases l with
  | nil => exact absurd h hne
  | cons n r =>
    obtain ⟨rfl, _, h1, h2, h3, h4⟩ := h
    exact ⟨r, rfl, h1, h2, h3, h4⟩

theorem Way.mk {node : Int} {r : List Int} (hne : node ≠ goal) (h1 : 0 ≤ node) (h2 : node < nT) (h3 : node < par.length) (h : Way par nT goal (par.getD node.toNat 0 - 1) r) : Way par nT goal node (node :: r) :=
  ⟨rfl, hne, h1, h2, h3, h⟩

theorem Way.goal_nil {l : List Int} (h : Way par nT goal goal l) : l = [] := by
  cases l with
  | nil => rfl
  | cons n r => exact absurd rfl h.2.1

/-- The transactions on the way, from the goal on. -/
def pathOf (tx : List Int) (goal : Int) (l : List Int) : List Int := (goal :: l.reverse).map fun n => tx.getD n.toNat 0

theorem pathOf_nil (tx : List Int) (goal : Int) : pathOf tx goal [] = [tx.getD goal.toNat 0] := rfl

theorem pathOf_cons (tx : List Int) (goal n : Int) (r : List Int) : pathOf tx goal (n :: r) = pathOf tx goal r ++ [tx.getD n.toNat 0] := by
  simp [pathOf]

theorem pathOf_length (tx : List Int) (goal : Int) (l : List Int) : (pathOf tx goal l).length = l.length + 1 := by simp [pathOf]

theorem pathOf_split (tx : List Int) (goal mid : Int) (l1 l2 : List Int) : pathOf tx goal (l1 ++ l2) = pathOf tx goal l2 ++ (pathOf tx mid l1).tail := by
  simp [pathOf]

/-- The last of a path is its end. -/
theorem pathOf_last {mid : Int} {l : List Int} (h : Way par nT goal mid l) (tx : List Int) : (pathOf tx goal l)[l.length]? = some (tx.getD mid.toNat 0) := by
  cases l with
  | nil =>
    have e : mid = goal := h
    subst e
    rfl
  | cons n r =>
    obtain ⟨rfl, _⟩ := h
    rw [pathOf_cons]
    have : (pathOf tx goal r).length = (mid :: r).length := by rw [pathOf_length]; rfl
    rw [← this]
    simp

end Go.Proofs.Qxb6601860a
