import Derived.Test.Qxb6608970aModsEnts
namespace Go.Proofs.Qxb6608970aMods
set_option linter.unusedVariables false

def sameS (a b : Str) : Bool := a.toList == b.toList
theorem sameS_iff (a b : Str) : sameS a b = decide (a = b) := by
  unfold sameS
  rw [← beq_toListBytes, beqB]

/-- Did one of the first t entries bear the name of entry k? -/
def seenN (A : EntL) (k : Nat) : Nat → Bool
  | 0 => false
  | t + 1 => seenN A k t || sameS (eN A t) (eN A k)
/-- Did one of the first t entries bear the name and the number of entry k? -/
def seenP (A : EntL) (k : Nat) : Nat → Bool
  | 0 => false
  | t + 1 => seenP A k t || (sameS (eN A t) (eN A k) && (eI A t == eI A k))
def nmC (A : EntL) : Nat → Nat
  | 0 => 0
  | k + 1 => if seenN A k k then nmC A k else nmC A k + 1
def prC (A : EntL) : Nat → Nat
  | 0 => 0
  | k + 1 => if seenP A k k then prC A k else prC A k + 1
def szC (A : EntL) (L : PairsL) : Nat → Nat
  | 0 => 0
  | k + 1 => if seenN A k k then szC A L k else szC A L k + cnt L (eN A k)

theorem nmC_le (A : EntL) (k : Nat) : nmC A k ≤ k := by
  induction k with
  | zero => exact Nat.le_refl _
  | succ k ih => unfold nmC; split <;> omega
theorem prC_le (A : EntL) (k : Nat) : prC A k ≤ k := by
  induction k with
  | zero => exact Nat.le_refl _
  | succ k ih => unfold prC; split <;> omega
theorem cnt_le {α β : Type} [DecidableEq α] (L : List (α × β)) (s : α) : cnt L s ≤ L.length := List.length_filter_le _ _
theorem szC_le (A : EntL) (L : PairsL) (k : Nat) : szC A L k ≤ k * L.length := by
  induction k with
  | zero => simp [szC]
  | succ k ih =>
    have := cnt_le L (eN A k)
    unfold szC
    rw [Nat.succ_mul]
    split <;> omega

def nU (A : EntL) : Nat → List Str
  | 0 => []
  | k + 1 => eN A k :: nU A k
def pU (A : EntL) : Nat → List (Str × Int)
  | 0 => []
  | k + 1 => (eN A k, eI A k) :: pU A k
theorem mem_nU {A : EntL} {k : Nat} {s : Str} : s ∈ nU A k ↔ ∃ i, i < k ∧ s = eN A i := by
  induction k with
  | zero => simp [nU]
  | succ k ih =>
    rw [nU, List.mem_cons, ih]
    constructor
    · rintro (h | ⟨i, hi, h⟩)
      · exact ⟨k, by omega, h⟩
      · exact ⟨i, by omega, h⟩
    · rintro ⟨i, hi, h⟩
      by_cases e : i = k
      · subst e; exact .inl h
      · exact .inr ⟨i, by omega, h⟩
theorem mem_pU {A : EntL} {k : Nat} {q : Str × Int} : q ∈ pU A k ↔ ∃ i, i < k ∧ q = (eN A i, eI A i) := by
  induction k with
  | zero => simp [pU]
  | succ k ih =>
    rw [pU, List.mem_cons, ih]
    constructor
    · rintro (h | ⟨i, hi, h⟩)
      · exact ⟨k, by omega, h⟩
      · exact ⟨i, by omega, h⟩
    · rintro ⟨i, hi, h⟩
      by_cases e : i = k
      · subst e; exact .inl h
      · exact .inr ⟨i, by omega, h⟩
theorem seenN_iff (A : EntL) (k t : Nat) : seenN A k t = true ↔ ∃ i, i < t ∧ eN A k = eN A i := by
  induction t with
  | zero => simp [seenN]
  | succ t ih =>
    rw [seenN, Bool.or_eq_true, ih, sameS_iff, decide_eq_true_eq]
    constructor
    · rintro (⟨i, hi, h⟩ | h)
      · exact ⟨i, by omega, h⟩
      · exact ⟨t, by omega, h.symm⟩
    · rintro ⟨i, hi, h⟩
      by_cases e : i = t
      · subst e; exact .inr h.symm
      · exact .inl ⟨i, by omega, h⟩
theorem seenP_iff (A : EntL) (k t : Nat) : seenP A k t = true ↔ ∃ i, i < t ∧ (eN A k, eI A k) = (eN A i, eI A i) := by
  induction t with
  | zero => simp [seenP]
  | succ t ih =>
    rw [seenP, Bool.or_eq_true, ih, sameS_iff, Bool.and_eq_true, decide_eq_true_eq, beq_iff_eq]
    constructor
    · rintro (⟨i, hi, h⟩ | ⟨h, h2⟩)
      · exact ⟨i, by omega, h⟩
      · exact ⟨t, by omega, by rw [h, h2]⟩
    · rintro ⟨i, hi, h⟩
      by_cases e : i = t
      · subst e; exact .inr ⟨(congrArg Prod.fst h).symm, (congrArg Prod.snd h).symm⟩
      · exact .inl ⟨i, by omega, h⟩
theorem seenN_mem (A : EntL) (k : Nat) : seenN A k k = true ↔ eN A k ∈ nU A k := by rw [seenN_iff, mem_nU]
theorem seenP_mem (A : EntL) (k : Nat) : seenP A k k = true ↔ (eN A k, eI A k) ∈ pU A k := by rw [seenP_iff, mem_pU]

theorem nmC_eq (A : EntL) (k : Nat) : nmC A k = (dl (nU A k)).length := by
  induction k with
  | zero => rfl
  | succ k ih =>
    rw [nmC, nU, dl]
    by_cases c : seenN A k k = true
    · rw [if_pos c, if_pos ((seenN_mem A k).1 c), ih]
    · rw [if_neg c, if_neg (fun h => c ((seenN_mem A k).2 h)), ih]; rfl
theorem prC_eq (A : EntL) (k : Nat) : prC A k = (dl (pU A k)).length := by
  induction k with
  | zero => rfl
  | succ k ih =>
    rw [prC, pU, dl]
    by_cases c : seenP A k k = true
    · rw [if_pos c, if_pos ((seenP_mem A k).1 c), ih]
    · rw [if_neg c, if_neg (fun h => c ((seenP_mem A k).2 h)), ih]; rfl
theorem szC_eq (A : EntL) (L : PairsL) (k : Nat) : szC A L k = ((dl (nU A k)).map (cnt L)).sum := by
  induction k with
  | zero => rfl
  | succ k ih =>
    rw [szC, nU, dl]
    by_cases c : seenN A k k = true
    · rw [if_pos c, if_pos ((seenN_mem A k).1 c), ih]
    · rw [if_neg c, if_neg (fun h => c ((seenN_mem A k).2 h)), ih, List.map_cons, List.sum_cons]; omega

theorem nodup_map_on {α β : Type} {f : α → β} {l : List α} (h : l.Nodup) (hi : ∀ a ∈ l, ∀ b ∈ l, f a = f b → a = b) : (l.map f).Nodup := by
  induction l with
  | nil => simp
  | cons a l ih =>
    rw [List.nodup_cons] at h
    rw [List.map_cons, List.nodup_cons]
    refine ⟨fun hm => ?_, ih h.2 (fun x hx y hy => hi x (by simp [hx]) y (by simp [hy]))⟩
    obtain ⟨b, hb, e⟩ := List.mem_map.1 hm
    have := hi b (by simp [hb]) a (by simp) e
    exact h.1 (this ▸ hb)

theorem plain_fin {A : EntL} {n : Nat} {L : PairsL} {Q : Int → Option Nat} (hn : L.Nodup) (hL : ∀ q, q ∈ L ↔ ∃ i, i < n ∧ q.1 = eN A i ∧ Q (eI A i) = some q.2)
    (hQ : ∀ i, i < n → (Q (eI A i)).isSome = true) (inj : ∀ i j b, Q i = some b → Q j = some b → i = j) : nmC A n = dn L ∧ szC A L n = prC A n := by
  have hnames : ∀ s, s ∈ nU A n ↔ s ∈ names L := by
    intro s
    rw [mem_nU, mem_names]
    constructor
    · rintro ⟨i, hi, rfl⟩
      obtain ⟨b, hb⟩ := Option.isSome_iff_exists.1 (hQ i hi)
      exact ⟨b, (hL _).2 ⟨i, hi, rfl, hb⟩⟩
    · rintro ⟨p, hp⟩
      obtain ⟨i, hi, e, _⟩ := (hL _).1 hp
      exact ⟨i, hi, e⟩
  refine ⟨by rw [nmC_eq]; exact dl_len_same hnames, ?_⟩
  rw [szC_eq, prC_eq, sum_cnt_all L (nodup_dl _) (fun q hq => mem_dl.2 ((hnames _).2 (mem_names.2 ⟨q.2, hq⟩)))]
  have e1 : ((dl (pU A n)).map (fun q => (q.1, (Q q.2).getD 0))).Nodup := by
    refine nodup_map_on (nodup_dl _) ?_
    intro a ha b hb e
    obtain ⟨i, hi, rfl⟩ := mem_pU.1 (mem_dl.1 ha)
    obtain ⟨j, hj, rfl⟩ := mem_pU.1 (mem_dl.1 hb)
    obtain ⟨x, hx⟩ := Option.isSome_iff_exists.1 (hQ i hi)
    obtain ⟨y, hy⟩ := Option.isSome_iff_exists.1 (hQ j hj)
    simp only [hx, hy, Option.getD_some, Prod.mk.injEq] at e
    obtain ⟨e1, rfl⟩ := e
    rw [e1, inj _ _ _ hx hy]
  have := len_eq_of_same hn e1 (fun q => ?_)
  · rw [this, List.length_map]
  · rw [hL, List.mem_map]
    constructor
    · rintro ⟨i, hi, h1, h2⟩
      exact ⟨(eN A i, eI A i), mem_dl.2 (mem_pU.2 ⟨i, hi, rfl⟩), by simp only [h2, Option.getD_some]; rw [← h1]⟩
    · rintro ⟨p, hp, rfl⟩
      obtain ⟨i, hi, rfl⟩ := mem_pU.1 (mem_dl.1 hp)
      obtain ⟨x, hx⟩ := Option.isSome_iff_exists.1 (hQ i hi)
      exact ⟨i, hi, rfl, by simp [hx]⟩
end Go.Proofs.Qxb6608970aMods
