import Derived.Test.Qxb6608597aModsCnt
namespace Go.Proofs.Qxb6608597aMods
open Go.RowKit Go.Maps
set_option linter.unusedVariables false

/-- How often each number occurs. -/
def F (l : List Int) (x : Int) : Option Int := if 0 < l.count x then some (l.count x : Int) else none

/-- How many of the first k numbers are new where they stand. -/
def dis (l : List Int) : Nat → Nat
  | 0 => 0
  | k + 1 => if l.getD k 0 ∈ l.take k then dis l k else dis l k + 1

theorem F_isSome (l : List Int) (x : Int) : (F l x).isSome = decide (x ∈ l) := by
  unfold F
  by_cases h : x ∈ l
  · have := List.count_pos_iff.2 h; simp [this, h]
  · have : l.count x = 0 := List.count_eq_zero.2 h
    simp [this, h]
theorem F_getD (l : List Int) (x : Int) : (F l x).getD 0 = (l.count x : Int) := by
  unfold F
  split
  · rfl
  · simp; omega

theorem take_snoc {l : List Int} {k : Nat} (h : k < l.length) : l.take (k + 1) = l.take k ++ [l.getD k 0] := by
  rw [List.take_succ_eq_append_getElem h]
  simp [h]

theorem F_step {l : List Int} {k : Nat} (h : k < l.length) (hk : k ≤ 4096) : upd (F (l.take k)) (l.getD k 0) (wrap64 ((F (l.take k) (l.getD k 0)).getD 0 + 1)) = F (l.take (k + 1)) := by
  funext y
  rw [take_snoc h, F_getD]
  have hc : (l.take k).count (l.getD k 0) ≤ k := Nat.le_trans List.count_le_length (List.length_take_le _ _)
  rw [IntWalk.wrap64_in _ ⟨by omega, by omega⟩]
  clear hc h
  generalize l.getD k 0 = z
  unfold upd F
  by_cases e : y = z
  · subst e
    simp
  · have e' : ¬ z = y := fun h => e h.symm
    simp [e, e']

theorem dis_step {l : List Int} {k : Nat} : (if (F (l.take k) (l.getD k 0)).isSome then dis l k else dis l k + 1) = dis l (k + 1) := by
  rw [F_isSome]
  show _ = (if l.getD k 0 ∈ l.take k then dis l k else dis l k + 1)
  simp

theorem dis_le (l : List Int) (k : Nat) : dis l k ≤ k := by
  induction k with
  | zero => exact Nat.le_refl _
  | succ k ih => simp only [dis]; split <;> omega

theorem count_step {l : List Int} {k : Nat} (h : k < l.length) (x : Int) : (l.take (k + 1)).count x = (l.take k).count x + if l.getD k 0 = x then 1 else 0 := by
  rw [take_snoc h, List.count_append, List.count_cons]
  generalize l.getD k 0 = z
  by_cases e : z = x <;> simp [e]

theorem count_take_le (l : List Int) (k : Nat) (x : Int) : (l.take k).count x ≤ k := Nat.le_trans List.count_le_length (List.length_take_le _ _)

/-- Was x not among the first j numbers ahead of i? -/
def firstB (l : List Int) (i j : Nat) (x : Int) : Bool := !decide (x ∈ l.take (min i j))

theorem first_hit {l : List Int} {i j : Nat} {x : Int} (h : j < l.length) (hx : l.getD j 0 = x) (hji : j < i) : firstB l i (j + 1) x = false := by
  unfold firstB
  rw [show min i (j + 1) = j + 1 by omega, take_snoc h, hx]
  simp
theorem first_past {l : List Int} {i j : Nat} {x : Int} (hji : ¬ j < i) : firstB l i (j + 1) x = firstB l i j x := by
  unfold firstB
  rw [show min i (j + 1) = i by omega, show min i j = i by omega]
theorem first_miss {l : List Int} {i j : Nat} {x : Int} (h : j < l.length) (hx : l.getD j 0 ≠ x) : firstB l i (j + 1) x = firstB l i j x := by
  by_cases hji : j < i
  · unfold firstB
    rw [show min i (j + 1) = j + 1 by omega, show min i j = j by omega, take_snoc h]
    have : ¬ x = l.getD j 0 := fun e => hx e.symm
    generalize l.getD j 0 = z at *
    simp [this]
  · exact first_past hji
end Go.Proofs.Qxb6608597aMods
