import Derived.Test.Qxb6605764aModsWorld
namespace Go.Proofs.Qxb6605764aMods
open Go.RowKit
set_option linter.unusedVariables false

/-- What is told of the line of two boundaries, one below the other. -/
def told2 (oc ic io : Bool) (o1 o2 : Int) : Int × Bool :=
  if ic then (if oc && decide (o1 < o2) then (o1, true) else (o2, true))
  else if io then (if oc && decide (o1 ≤ o2) then (o1, true) else (o2, false))
  else if oc then (o1, true) else (-1, false)

def u1 (v : Option Int) (d : Bool) (st : Int × Bool) : Int × Bool :=
  match v with
  | some l => if d && (decide (st.1 < 0) || decide (l < st.1)) then (l, true) else st
  | none => st
def u2 (v : Option Int) (st : Int × Bool) : Int × Bool :=
  match v with
  | some l => if decide (st.1 < 0) || decide (l < st.1) then (l, false) else st
  | none => st

theorem told2_core (v1 v2 : Option Int) (d od ab : Bool) (q1 : ∀ l, v1 = some l → 0 ≤ l) (q2 : ∀ l, v2 = some l → 0 ≤ l) (h : od = true → ab = false) :
    (if ab = true then u2 v2 (u1 v2 od (u1 v1 d (-1, false))) else u1 v2 od (u1 v1 d (-1, false))) = told2 (v1.isSome && d) (v2.isSome && od) (v2.isSome && ab) (v1.getD 0) (v2.getD 0) := by
  cases v1 with
  | none =>
    cases v2 with
    | none => cases od <;> cases ab <;> cases d <;> simp [u1, u2, told2]
    | some l2 =>
      have k2 : ¬ l2 < 0 := by have := q2 l2 rfl; omega
      cases od <;> cases ab <;> cases d <;> simp_all [u1, u2, told2]
  | some l1 =>
    have k1 : ¬ l1 < 0 := by have := q1 l1 rfl; omega
    cases v2 with
    | none => cases od <;> cases ab <;> cases d <;> simp_all [u1, u2, told2]
    | some l2 =>
      have k2 : ¬ l2 < 0 := by have := q2 l2 rfl; omega
      by_cases h12 : l1 < l2
      · have a1 : ¬ l2 < l1 := by omega
        have a2 : l1 ≤ l2 := by omega
        cases od <;> cases ab <;> cases d <;> simp [u1, u2, told2, k1, a1, a2, h12] at h ⊢
      · by_cases h21 : l2 < l1
        · have a2 : ¬ l1 ≤ l2 := by omega
          cases od <;> cases ab <;> cases d <;> simp [u1, u2, told2, k1, a2, h12, h21] at h ⊢
        · obtain rfl : l1 = l2 := by omega
          cases od <;> cases ab <;> cases d <;> simp [u1, u2, told2, k1] at h ⊢

theorem told2_law (O I : List Int) (t : Int) (P T : List Int) (p sh : Int) (hO : Sorted O) (hI : Sorted I) (hp : 2 < p) (hpP : p < P.length) (hlo : (P.length : Int) ≤ sh) (hab : sh ≤ (P.length : Int) ↔ allBlank T = true) :
    p3 t sh [(1, []), (2, []), (p, O), ((P.length : Int), I)] 4 (p1 t (P ++ T) [(1, []), (2, []), (p, O), ((P.length : Int), I)] 2 (-1, false)) =
      told2 ((lvl O t).isSome && dashB (P ++ T) p) ((lvl I t).isSome && opensDash T) ((lvl I t).isSome && allBlank T) ((lvl O t).getD 0) ((lvl I t).getD 0) := by
  have hst : ¬ sh ≤ p := by omega
  have e3 : ∀ st, p3 t sh [(1, []), (2, []), (p, O), ((P.length : Int), I)] 4 st = if sh ≤ (P.length : Int) then u2 (lvl I t) st else st := by
    intro st
    show (if sh ≤ (P.length : Int) then (if sh ≤ p then _ else u2 (lvl I t) st) else st) = _
    rw [if_neg hst]
  have e1 : p1 t (P ++ T) [(1, []), (2, []), (p, O), ((P.length : Int), I)] 2 (-1, false) = u1 (lvl I t) (dashB (P ++ T) P.length) (u1 (lvl O t) (dashB (P ++ T) p) (-1, false)) := rfl
  rw [e3, e1, dash_spec]
  rw [← told2_core (lvl O t) (lvl I t) (dashB (P ++ T) p) (opensDash T) (allBlank T) (fun l h => lvl_nonneg hO h) (fun l h => lvl_nonneg hI h) dash_notBlank]
  by_cases hb : sh ≤ (P.length : Int)
  · rw [if_pos hb, if_pos (hab.1 hb)]
  · rw [if_neg hb, if_neg (fun h => hb (hab.2 h))]

/-- The world that the second law lays its steps and its line in. -/
def wTwo (w : World) (x0 x1 y0 y1 : Option Addr) (lo le lt l1 l2 G : Nat) : World :=
  (((((((((w.alloc (.cells #[.int .i32 1, .int .i32 1, .pointer none, .int .i64 0, .int .i64 (-1)] 31)).alloc
    (.cells #[.slice none 0 0, .slice none 0 0, .slice none 0 0] 44)).alloc
    (.cells #[.int .i32 2, .int .i32 2, .pointer (some ⟨w.heap.size + 1, 0, none⟩), .int .i64 0, .int .i64 (-1)] 31)).alloc
    (.cells #[.slice x0 lo lo, .slice none 0 0, .slice y0 l1 l1] 44)).alloc
    (.cells #[.int .i32 3, .int .i32 (2 + lo), .pointer (some ⟨w.heap.size + 1 + 1 + 1, 0, none⟩), .int .i64 lo, .int .i64 (-1)] 31)).alloc
    (.cells #[.slice x1 le le, .slice none 0 0, .slice y1 l2 l2] 44)).alloc
    (.cells #[.int .i32 (2 + lo + 1), .int .i32 (2 + lo + le), .pointer (some ⟨w.heap.size + 1 + 1 + 1 + 1 + 1, 0, none⟩), .int .i64 le, .int .i64 (-1)] 31)).alloc
    (.cells #[.int .i32 1, .int .i32 1, .pointer none, .int .i64 0, .int .i64 (-1), .int .i32 2, .int .i32 2, .pointer (some ⟨w.heap.size + 1, 0, none⟩), .int .i64 0, .int .i64 (-1), .int .i32 3, .int .i32 (2 + lo), .pointer (some ⟨w.heap.size + 1 + 1 + 1, 0, none⟩), .int .i64 lo, .int .i64 (-1), .int .i32 (2 + lo + 1), .int .i32 (2 + lo + le), .pointer (some ⟨w.heap.size + 1 + 1 + 1 + 1 + 1, 0, none⟩), .int .i64 le, .int .i64 (-1)] 31)).alloc
    (.cells #[.pointer none, .int .i32 0, .int .i32 0, .int .i32 0, .slice (some ⟨G, 0, none⟩) (2 + lo + le + lt) (2 + lo + le + lt)] 47))

theorem wTwo_below (w : World) (x0 x1 y0 y1 : Option Addr) (lo le lt l1 l2 G : Nat) : Below w.heap.size w (wTwo w x0 x1 y0 y1 lo le lt l1 l2 G) := by
  unfold wTwo
  exact (((((((((Below.refl _ _).alloc (Nat.le_refl _) _).alloc (by simp) _).alloc (by simp; omega) _).alloc (by simp; omega) _).alloc (by simp; omega) _).alloc (by simp; omega) _).alloc (by simp; omega) _).alloc (by simp; omega) _).alloc (by simp; omega) _

theorem two_steps (w : World) (x0 x1 y0 y1 : Option Addr) (lo le lt l1 l2 G : Nat) (P O I : List Int) (hP : P.length = 2 + lo + le) (hlo : lo ≤ 262144) (hle : le ≤ 262144) (h1 : O.length = l1) (h2 : I.length = l2) (hl1 : l1 ≤ 8192) (hl2 : l2 ≤ 8192)
    (s1 : Sorted O) (s2 : Sorted I) (r1 : Row .i64 w y0 O) (r2 : Row .i64 w y1 I) :
    StepsAt (wTwo w x0 x1 y0 y1 lo le lt l1 l2 G) (w.heap.size + 1 + 1 + 1 + 1 + 1 + 1 + 1) [(1, []), (2, []), (2 + (lo : Int), O), ((P.length : Int), I)] := by
  have r1' : Row .i64 (wTwo w x0 x1 y0 y1 lo le lt l1 l2 G) y0 O := r1.below (wTwo_below ..)
  have r2' : Row .i64 (wTwo w x0 x1 y0 y1 lo le lt l1 l2 G) y1 I := r2.below (wTwo_below ..)
  refine ⟨?_, ?_, ?_, ?_⟩
  · intro k hk
    match k, hk with
    | 0, _ =>
      refine ⟨?_, ?_, .inl ⟨?_, rfl⟩⟩
      all_goals
        unfold wTwo
        repeat rw [cell_old _ _ _ _ (by simp only [size_al]; omega)]
        rw [cell_top _ _ _ _ _ (by simp only [size_al])]
        simp
    | 1, _ =>
      refine ⟨?_, ?_, .inr ⟨w.heap.size + 1, none, 0, 0, none, 0, ?_, ?_, ?_, ?_, .inl rfl⟩⟩
      all_goals
        unfold wTwo
        repeat rw [cell_old _ _ _ _ (by simp only [size_al]; omega)]
        rw [cell_top _ _ _ _ _ (by simp only [size_al])]
        simp
    | 2, _ =>
      refine ⟨?_, ?_, .inr ⟨w.heap.size + 1 + 1 + 1, x0, lo, lo, y0, l1, ?_, ?_, ?_, ?_, r1'⟩⟩
      all_goals
        unfold wTwo
        repeat rw [cell_old _ _ _ _ (by simp only [size_al]; omega)]
        rw [cell_top _ _ _ _ _ (by simp only [size_al])]
        simp [h1]
    | 3, _ =>
      refine ⟨?_, ?_, .inr ⟨w.heap.size + 1 + 1 + 1 + 1 + 1, x1, le, le, y1, l2, ?_, ?_, ?_, ?_, r2'⟩⟩
      all_goals
        unfold wTwo
        repeat rw [cell_old _ _ _ _ (by simp only [size_al]; omega)]
        rw [cell_top _ _ _ _ _ (by simp only [size_al])]
        simp [hP, h2]
    | k + 4, h => exact absurd h (by simp only [List.length_cons, List.length_nil]; omega)
  · intro k hk
    match k, hk with
    | 0, _ => exact sorted_nil
    | 1, _ => exact sorted_nil
    | 2, _ => exact s1
    | 3, _ => exact s2
    | k + 4, h => exact absurd h (by simp only [List.length_cons, List.length_nil]; omega)
  · intro k hk
    match k, hk with
    | 0, _ => simp
    | 1, _ => simp
    | 2, _ => simp; omega
    | 3, _ => simp; omega
    | k + 4, h => exact absurd h (by simp only [List.length_cons, List.length_nil]; omega)
  · intro k hk
    match k, hk with
    | 0, _ => simp
    | 1, _ => simp
    | 2, _ => simp; omega
    | 3, _ => simp; omega
    | k + 4, h => exact absurd h (by simp only [List.length_cons, List.length_nil]; omega)

theorem two_line (w : World) (x0 x1 y0 y1 : Option Addr) (lo le lt l1 l2 G : Nat) (ln : List Int) (hln : ln.length = 2 + lo + le + lt) (hc : ∀ i, i < 2 + lo + le + lt → w.cell? ⟨G, i, none⟩ = some (.int .u8 (ln.getD i 0))) :
    LineAt (wTwo w x0 x1 y0 y1 lo le lt l1 l2 G) (w.heap.size + 1 + 1 + 1 + 1 + 1 + 1 + 1 + 1) G (2 + lo + le + lt) ln := by
  refine ⟨?_, ?_, fun i hi => ?_⟩
  · unfold wTwo
    rw [cell_top _ _ _ _ _ (by simp only [size_al])]
    simp
  · unfold wTwo
    rw [cell_top _ _ _ _ _ (by simp only [size_al])]
    simp [hln]
  rw [(wTwo_below w x0 x1 y0 y1 lo le lt l1 l2 G).cell (lt_of_cell (hc i (by omega)))]
  exact hc i (by omega)
end Go.Proofs.Qxb6605764aMods
