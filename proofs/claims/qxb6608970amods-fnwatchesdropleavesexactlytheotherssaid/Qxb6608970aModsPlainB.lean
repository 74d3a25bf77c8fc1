import Derived.Test.Qxb6608970aModsFil
namespace Go.Proofs.Qxb6608970aMods
set_option linter.unusedVariables false

/-- The channels of the first i others, each with its owner. -/
def fl (O : OthL) : Nat → EntL
  | 0 => []
  | i + 1 => fl O i ++ (cN O i).map (fun s => (s, (i : Int)))
def offs (O : OthL) (i : Nat) : Nat := (fl O i).length
theorem offs_succ (O : OthL) (i : Nat) : offs O (i + 1) = offs O i + (cN O i).length := by simp [offs, fl]
theorem offs_mono (O : OthL) {i j : Nat} (h : i ≤ j) : offs O i ≤ offs O j := by
  induction j with
  | zero => have : i = 0 := by omega
            subst this; exact Nat.le_refl _
  | succ j ih =>
    by_cases e : i = j + 1
    · subst e; exact Nat.le_refl _
    · have := ih (by omega)
      rw [offs_succ]; omega
theorem fl_get (O : OthL) {n i v : Nat} (hi : i < n) (hv : v < (cN O i).length) : (fl O n)[offs O i + v]? = some (nm (cN O i) v, (i : Int)) := by
  induction n with
  | zero => omega
  | succ n ih =>
    rw [fl]
    by_cases e : i = n
    · subst e
      rw [List.getElem?_append_right (by unfold offs; omega)]
      have : offs O i + v - (fl O i).length = v := by unfold offs; omega
      rw [this, List.getElem?_map, List.getElem?_eq_getElem hv]
      simp [nm, hv]
    · have h1 := ih (by omega)
      rw [List.getElem?_append_left]
      · exact h1
      · exact (List.getElem?_eq_some_iff.1 h1).1
theorem fl_at (O : OthL) {n i v : Nat} (hi : i < n) (hv : v < (cN O i).length) : eN (fl O n) (offs O i + v) = nm (cN O i) v ∧ eI (fl O n) (offs O i + v) = i := by
  unfold eN eI
  rw [List.getD_eq_getElem?_getD, fl_get O hi hv]
  exact ⟨rfl, rfl⟩
theorem offs_lt (O : OthL) {n i v : Nat} (hi : i < n) (hv : v < (cN O i).length) : offs O i + v < offs O n := (List.getElem?_eq_some_iff.1 (fl_get O hi hv)).1
theorem offs_split (O : OthL) {n p : Nat} (h : p < offs O n) : ∃ i v, i < n ∧ v < (cN O i).length ∧ p = offs O i + v := by
  induction n with
  | zero => simp [offs, fl] at h
  | succ n ih =>
    by_cases c : p < offs O n
    · obtain ⟨i, v, hi, hv, e⟩ := ih c
      exact ⟨i, v, by omega, hv, e⟩
    · rw [offs_succ] at h
      exact ⟨n, p - offs O n, by omega, by omega, by omega⟩

def A1 (O : OthL) (n : Nat) : EntL := (List.range n).map (fun i => (rN O i, (i : Int)))
theorem A1_at (O : OthL) {n i : Nat} (hi : i < n) : eN (A1 O n) i = rN O i ∧ eI (A1 O n) i = i := by
  unfold eN eI A1
  rw [List.getD_eq_getElem?_getD]
  simp [hi]

def Qof (n : Nat) (P : Nat → Nat) : Int → Option Nat := fun z => if 0 ≤ z ∧ z < n then some (P z.toNat) else none
theorem Qof_at {n : Nat} {P : Nat → Nat} {i : Nat} (hi : i < n) : Qof n P (i : Int) = some (P i) := by
  unfold Qof
  rw [if_pos ⟨by omega, by omega⟩]
  rfl
theorem Qof_inj {n : Nat} {P : Nat → Nat} (hP : ∀ i j, i < n → j < n → P i = P j → i = j) (z z' : Int) (b : Nat) (h : Qof n P z = some b) (h' : Qof n P z' = some b) : z = z' := by
  unfold Qof at h h'
  by_cases c : 0 ≤ z ∧ z < n
  · by_cases c' : 0 ≤ z' ∧ z' < n
    · rw [if_pos c] at h
      rw [if_pos c'] at h'
      have := hP z.toNat z'.toNat (by omega) (by omega) ((Option.some.inj h).trans (Option.some.inj h').symm)
      omega
    · rw [if_neg c'] at h'; cases h'
  · rw [if_neg c] at h; cases h

theorem seenP_A1 (O : OthL) {n k t : Nat} (hk : k < n) (ht : t ≤ k) : seenP (A1 O n) k t = false := by
  cases h : seenP (A1 O n) k t with
  | false => rfl
  | true =>
    obtain ⟨i, hi, e⟩ := (seenP_iff _ _ _).1 h
    have e2 := congrArg Prod.snd e
    simp only [(A1_at O hk).2, (A1_at O (show i < n by omega)).2] at e2
    omega
theorem prC_A1 (O : OthL) {n k : Nat} (hk : k ≤ n) : prC (A1 O n) k = k := by
  induction k with
  | zero => rfl
  | succ k ih => rw [prC, seenP_A1 O (by omega) (Nat.le_refl _), ih (by omega)]; rfl

theorem plain_one {O : OthL} {n : Nat} {P : Nat → Nat} {L1 : PairsL} (hn : L1.Nodup) (hP : ∀ i j, i < n → j < n → P i = P j → i = j) (m1 : ∀ q, q ∈ L1 ↔ ∃ i, i < n ∧ q = (rN O i, P i)) :
    nmC (A1 O n) n = dn L1 ∧ szC (A1 O n) L1 n = n := by
  have := plain_fin (A := A1 O n) (n := n) (Q := Qof n P) hn (fun q => ?_) (fun i hi => by rw [(A1_at O hi).2, Qof_at hi]; rfl) (Qof_inj hP)
  · exact ⟨this.1, this.2.trans (prC_A1 O (Nat.le_refl _))⟩
  · rw [m1]
    constructor
    · rintro ⟨i, hi, rfl⟩
      exact ⟨i, hi, by rw [(A1_at O hi).1], by rw [(A1_at O hi).2, Qof_at hi]⟩
    · rintro ⟨i, hi, e1, e2⟩
      rw [(A1_at O hi).2, Qof_at hi] at e2
      rw [(A1_at O hi).1] at e1
      exact ⟨i, hi, Prod.ext e1 (Option.some.inj e2).symm⟩
theorem plain_two {O : OthL} {n : Nat} {P : Nat → Nat} {L2 : PairsL} (hn : L2.Nodup) (hP : ∀ i j, i < n → j < n → P i = P j → i = j) (m2 : ∀ q, q ∈ L2 ↔ ∃ i, i < n ∧ ∃ v, v < (cN O i).length ∧ q = (nm (cN O i) v, P i)) :
    nmC (fl O n) (offs O n) = dn L2 ∧ szC (fl O n) L2 (offs O n) = prC (fl O n) (offs O n) := by
  refine plain_fin (A := fl O n) (n := offs O n) (Q := Qof n P) hn (fun q => ?_) (fun p hp => ?_) (Qof_inj hP)
  · rw [m2]
    constructor
    · rintro ⟨i, hi, v, hv, rfl⟩
      obtain ⟨h1, h2⟩ := fl_at O hi hv
      exact ⟨_, offs_lt O hi hv, h1.symm, by rw [h2, Qof_at hi]⟩
    · rintro ⟨p, hp, e1, e2⟩
      obtain ⟨i, v, hi, hv, rfl⟩ := offs_split O hp
      obtain ⟨h1, h2⟩ := fl_at O hi hv
      rw [h2, Qof_at hi] at e2
      rw [h1] at e1
      exact ⟨i, hi, v, hv, Prod.ext e1 (Option.some.inj e2).symm⟩
  · obtain ⟨i, v, hi, hv, rfl⟩ := offs_split O hp
    rw [(fl_at O hi hv).2, Qof_at hi]; rfl
theorem len_one {O : OthL} {n : Nat} {P : Nat → Nat} {L1 : PairsL} (hn : L1.Nodup) (m1 : ∀ q, q ∈ L1 ↔ ∃ i, i < n ∧ q = (rN O i, P i)) : L1.length ≤ n := by
  have := len_le_of_sub (m := (List.range n).map (fun i => (rN O i, P i))) hn (fun q hq => by
    obtain ⟨i, hi, rfl⟩ := (m1 q).1 hq
    exact List.mem_map.2 ⟨i, by simpa using hi, rfl⟩)
  simpa using this
theorem len_two {O : OthL} {n : Nat} {P : Nat → Nat} {L2 : PairsL} (hn : L2.Nodup) (m2 : ∀ q, q ∈ L2 ↔ ∃ i, i < n ∧ ∃ v, v < (cN O i).length ∧ q = (nm (cN O i) v, P i)) : L2.length ≤ offs O n := by
  have := len_le_of_sub (m := (fl O n).map (fun q => (q.1, P q.2.toNat))) hn (fun q hq => by
    obtain ⟨i, hi, v, hv, rfl⟩ := (m2 q).1 hq
    exact List.mem_map.2 ⟨_, List.mem_of_getElem? (fl_get O hi hv), rfl⟩)
  simpa [offs] using this
end Go.Proofs.Qxb6608970aMods
