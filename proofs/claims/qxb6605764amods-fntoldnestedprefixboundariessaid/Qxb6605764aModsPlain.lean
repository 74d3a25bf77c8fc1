import Derived.Test.Qxb6605764aModsTold
namespace Go.Proofs.Qxb6605764aMods
set_option linter.unusedVariables false

theorem lvl_nonneg {L : List Int} {t l : Int} (hs : Sorted L) (h : lvl L t = some l) : 0 ≤ l := by
  unfold lvl at h
  have hm := List.mem_of_find?_eq_some h
  obtain ⟨i, hi, rfl⟩ := List.getElem_of_mem hm
  have := (hs i hi).1
  simpa [hi] using this

theorem shown_below (ln : List Int) (i : Nat) (hb : blankB (byteOf ln ((i : Int) + 1)) = false) (m : Nat) (hm : m ≤ ln.length) (hi : i + 1 ≤ m) (h : ∀ q : Int, (m : Int) < q → q ≤ ln.length → blankB (byteOf ln q) = true) :
    ∃ sh, Shown ln sh ∧ (i : Int) + 1 ≤ sh := by
  induction m with
  | zero => omega
  | succ m ih =>
    cases hq : blankB (byteOf ln ((m : Int) + 1)) with
    | false => exact ⟨(m : Int) + 1, ⟨by omega, by omega, hq, fun q h1 h2 => h q (by omega) h2⟩, by omega⟩
    | true =>
      have him : i ≠ m := by rintro rfl; rw [hb] at hq; cases hq
      refine ih (by omega) (by omega) (fun q h1 h2 => ?_)
      by_cases e : q = (m : Int) + 1
      · subst e; exact hq
      · exact h q (by omega) h2

theorem byte_past (P T : List Int) (k : Nat) : byteOf (P ++ T) ((P.length : Int) + 1 + k) = T.getD k 0 := by
  unfold byteOf
  rw [show ((P.length : Int) + 1 + k - 1).toNat = P.length + k by omega]
  rw [List.getD_eq_getElem?_getD, List.getElem?_append_right (by omega)]
  simp

theorem shown_spec (P T : List Int) (hP : P ≠ []) (hl : blankB (P.getD (P.length - 1) 0) = false) :
    ∃ sh, Shown (P ++ T) sh ∧ (P.length : Int) ≤ sh ∧ (sh ≤ (P.length : Int) ↔ allBlank T = true) := by
  have hpos : 0 < P.length := List.length_pos_iff.2 hP
  obtain ⟨sh, hsh, hlo⟩ := shown_below (P ++ T) (P.length - 1) (by
    unfold byteOf
    rw [show (((P.length - 1 : Nat) : Int) + 1 - 1).toNat = P.length - 1 by omega]
    rw [List.getD_eq_getElem?_getD, List.getElem?_append_left (by omega), ← List.getD_eq_getElem?_getD]
    exact hl) (P ++ T).length (Nat.le_refl _) (by simp; omega) (fun q h1 h2 => by omega)
  refine ⟨sh, hsh, by omega, ?_, ?_⟩
  · intro hle
    unfold allBlank
    rw [List.all_eq_true]
    intro x hx
    obtain ⟨k, hk, rfl⟩ := List.getElem_of_mem hx
    have := hsh.yes ((P.length : Int) + 1 + k) (by omega) (by simp; omega)
    rw [byte_past] at this
    simpa [hk] using this
  · intro hab
    have hhi := hsh.hi
    simp at hhi
    by_cases hle : sh ≤ (P.length : Int)
    · exact hle
    · obtain ⟨k, hk⟩ : ∃ k : Nat, sh = (P.length : Int) + 1 + k := ⟨(sh - P.length - 1).toNat, by omega⟩
      have hno := hsh.no
      rw [hk, byte_past] at hno
      unfold allBlank at hab
      rw [List.all_eq_true] at hab
      have hkT : k < T.length := by omega
      have := hab T[k] (List.getElem_mem _)
      simp [hkT] at hno
      rw [hno] at this
      cases this

def opensDash (T : List Int) : Bool := decide (2 ≤ T.length) && T.getD 0 0 == 45 && T.getD 1 0 == 45

theorem dash_spec (P T : List Int) : dashB (P ++ T) P.length = opensDash T := by
  unfold dashB opensDash
  have e1 := byte_past P T 0
  have e2 := byte_past P T 1
  simp only [Int.natCast_zero, Int.add_zero, Int.natCast_one] at e1 e2
  rw [show (P.length : Int) + 2 = P.length + 1 + 1 by omega, e2, e1]
  congr 2
  rw [decide_eq_decide]
  simp
  omega

theorem dash_notBlank {T : List Int} (h : opensDash T = true) : allBlank T = false := by
  unfold opensDash at h
  simp only [Bool.and_eq_true, decide_eq_true_eq, beq_iff_eq] at h
  refine allBlank_no (k := 0) (by omega) ?_
  rw [h.1.2]
  rfl

/-- What is told of the line of one boundary. -/
def told1 (L : List Int) (t : Int) (T : List Int) : Int × Bool :=
  match lvl L t with
  | none => (-1, false)
  | some l => if opensDash T then (l, true) else if allBlank T then (l, false) else (-1, false)

theorem told1_law (L : List Int) (t : Int) (P T : List Int) (sh : Int) (hs : Sorted L) (hP : 3 ≤ P.length) (hlo : (P.length : Int) ≤ sh) (hab : sh ≤ (P.length : Int) ↔ allBlank T = true) :
    p3 t sh [(1, []), (2, []), ((P.length : Int), L)] 3 (p1 t (P ++ T) [(1, []), (2, []), ((P.length : Int), L)] 1 (-1, false)) = told1 L t T := by
  have e0 : lvl [] t = none := rfl
  unfold told1
  cases hv : lvl L t with
  | none => 
    simp only [p1, p3, upd1, upd2, List.drop, List.foldl, List.getD_eq_getElem?_getD, hv, e0]
    simp [hv, e0]
  | some l =>
    have hl := lvl_nonneg hs hv
    simp only [p1, p3, upd1, upd2, List.drop, List.foldl, hv, e0, dash_spec]
    cases hd : opensDash T with
    | true =>
      have hnb := dash_notBlank hd
      rw [hnb] at hab
      have : ¬ sh ≤ (P.length : Int) := by simpa using hab
      simp [this]
    | false =>
      cases hb : allBlank T with
      | true =>
        have : sh ≤ (P.length : Int) := by rw [hab]; exact hb
        have h2 : ¬ sh ≤ 2 := by omega
        simp [this, h2, hv]
      | false =>
        have : ¬ sh ≤ (P.length : Int) := by rw [hab, hb]; simp
        simp [this]
end Go.Proofs.Qxb6605764aMods
