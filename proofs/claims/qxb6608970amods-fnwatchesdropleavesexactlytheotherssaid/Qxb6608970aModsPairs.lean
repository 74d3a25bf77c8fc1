import Derived.Test.Qxb6608970aModsRaw
namespace Go.Proofs.Qxb6608970aMods
set_option linter.unusedVariables false
set_option linter.unusedSectionVars false

/-! Plain laws on lists: distinct members, pairs under a name. -/
section
variable {α β : Type} [DecidableEq α] [DecidableEq β]

/-- The distinct members. -/
def dl : List α → List α
  | [] => []
  | a :: l => if a ∈ l then dl l else a :: dl l
theorem mem_dl {a : α} {l : List α} : a ∈ dl l ↔ a ∈ l := by
  induction l with
  | nil => simp [dl]
  | cons b l ih =>
    unfold dl
    split
    · rename_i h
      rw [ih, List.mem_cons]
      exact ⟨.inr, fun h2 => by rcases h2 with rfl | h2; exact h; exact h2⟩
    · rw [List.mem_cons, List.mem_cons, ih]
theorem nodup_dl (l : List α) : (dl l).Nodup := by
  induction l with
  | nil => simp [dl]
  | cons b l ih =>
    unfold dl
    split
    · exact ih
    · rename_i h
      rw [List.nodup_cons]
      exact ⟨fun h2 => h (mem_dl.1 h2), ih⟩
theorem len_le_of_sub {l m : List α} (h : l.Nodup) (s : ∀ a ∈ l, a ∈ m) : l.length ≤ m.length := by
  induction l generalizing m with
  | nil => simp
  | cons a l ih =>
    rw [List.nodup_cons] at h
    have ha := s a (by simp)
    have := ih (m := m.erase a) h.2 (fun x hx => by
      have hxm := s x (by simp [hx])
      have hne : x ≠ a := fun e => h.1 (e ▸ hx)
      exact (List.mem_erase_of_ne hne).2 hxm)
    rw [List.length_erase_of_mem ha] at this
    have hp : 0 < m.length := List.length_pos_of_mem ha
    simp only [List.length_cons]
    omega
theorem len_eq_of_same {l m : List α} (h : l.Nodup) (k : m.Nodup) (s : ∀ a, a ∈ l ↔ a ∈ m) : l.length = m.length :=
  Nat.le_antisymm (len_le_of_sub h (fun a ha => (s a).1 ha)) (len_le_of_sub k (fun a ha => (s a).2 ha))
theorem dl_len_same {l m : List α} (s : ∀ a, a ∈ l ↔ a ∈ m) : (dl l).length = (dl m).length :=
  len_eq_of_same (nodup_dl l) (nodup_dl m) (fun a => by rw [mem_dl, mem_dl, s])
theorem dl_len_of_nodup {l m : List α} (h : l.Nodup) (s : ∀ a, a ∈ l ↔ a ∈ m) : l.length = (dl m).length :=
  len_eq_of_same h (nodup_dl m) (fun a => by rw [mem_dl, s])

def names (L : List (α × β)) : List α := L.map (·.1)
/-- How many pairs stand under the name s. -/
def cnt (L : List (α × β)) (s : α) : Nat := (L.filter (fun q => decide (q.1 = s))).length
/-- How many names there are. -/
def dn (L : List (α × β)) : Nat := (dl (names L)).length
def addP (L : List (α × β)) (q : α × β) : List (α × β) := if q ∈ L then L else q :: L
def remP (L : List (α × β)) (q : α × β) : List (α × β) := L.filter (fun x => decide (x ≠ q))

theorem mem_names {L : List (α × β)} {s : α} : s ∈ names L ↔ ∃ p, (s, p) ∈ L := by
  unfold names
  rw [List.mem_map]
  exact ⟨fun ⟨q, h, e⟩ => ⟨q.2, by rw [← e]; exact h⟩, fun ⟨p, h⟩ => ⟨_, h, rfl⟩⟩
theorem mem_addP {L : List (α × β)} {q x : α × β} : x ∈ addP L q ↔ x = q ∨ x ∈ L := by
  unfold addP
  split
  · exact ⟨.inr, fun h => by rcases h with rfl | h; assumption; exact h⟩
  · simp
theorem nodup_addP {L : List (α × β)} (h : L.Nodup) (q : α × β) : (addP L q).Nodup := by
  unfold addP
  split
  · exact h
  · rename_i c
    rw [List.nodup_cons]; exact ⟨c, h⟩
theorem mem_remP {L : List (α × β)} {q x : α × β} : x ∈ remP L q ↔ x ∈ L ∧ x ≠ q := by simp [remP]
theorem nodup_remP {L : List (α × β)} (h : L.Nodup) (q : α × β) : (remP L q).Nodup := h.sublist List.filter_sublist
theorem names_addP {L : List (α × β)} {s x : α} {p : β} : x ∈ names (addP L (s, p)) ↔ x = s ∨ x ∈ names L := by
  rw [mem_names, mem_names]
  constructor
  · rintro ⟨y, h⟩
    rcases mem_addP.1 h with h | h
    · exact .inl (congrArg Prod.fst h)
    · exact .inr ⟨y, h⟩
  · rintro (rfl | ⟨y, h⟩)
    · exact ⟨p, mem_addP.2 (.inl rfl)⟩
    · exact ⟨y, mem_addP.2 (.inr h)⟩
theorem dn_addP (L : List (α × β)) (s : α) (p : β) : dn (addP L (s, p)) = if s ∈ names L then dn L else dn L + 1 := by
  unfold addP
  split
  · rename_i h
    rw [if_pos (mem_names.2 ⟨p, h⟩)]
  · unfold dn
    show (dl (s :: names L)).length = _
    rw [dl]
    by_cases c : s ∈ names L
    · rw [if_pos c, if_pos c]
    · rw [if_neg c, if_neg c]; rfl
theorem cnt_addP (L : List (α × β)) (s : α) (p : β) : cnt (addP L (s, p)) s = if (s, p) ∈ L then cnt L s else cnt L s + 1 := by
  unfold addP
  split
  · rfl
  · simp [cnt]
theorem cnt_addP_ne (L : List (α × β)) {s s' : α} (p : β) (h : s' ≠ s) : cnt (addP L (s, p)) s' = cnt L s' := by
  unfold addP
  split
  · rfl
  · simp [cnt, Ne.symm h]
theorem cnt_pos {L : List (α × β)} {s : α} : cnt L s ≠ 0 ↔ s ∈ names L := by
  rw [mem_names]
  unfold cnt
  rw [← Nat.pos_iff_ne_zero, List.length_pos_iff_exists_mem]
  constructor
  · rintro ⟨q, h⟩
    rw [List.mem_filter] at h
    exact ⟨q.2, by have := of_decide_eq_true h.2; rw [← this]; exact h.1⟩
  · rintro ⟨p, h⟩
    exact ⟨(s, p), List.mem_filter.2 ⟨h, by simp⟩⟩
theorem cnt_remP_ne (L : List (α × β)) {s s' : α} (p : β) (h : s' ≠ s) : cnt (remP L (s, p)) s' = cnt L s' := by
  unfold cnt remP
  rw [List.filter_filter]
  congr 1
  apply List.filter_congr
  intro x _
  by_cases e : x.1 = s'
  · have : x ≠ (s, p) := fun e2 => h (by rw [← e, e2])
    simp [e, this]
  · simp [e]
theorem len_filter_ne {l : List α} (h : l.Nodup) (a : α) : (l.filter (fun x => decide (x ≠ a))).length = if a ∈ l then l.length - 1 else l.length := by
  induction l with
  | nil => simp
  | cons b l ih =>
    rw [List.nodup_cons] at h
    have ih := ih h.2
    by_cases e : b = a
    · subst e
      rw [if_neg h.1] at ih
      rw [List.filter_cons_of_neg (by simp), ih, if_pos (by simp)]
      simp
    · rw [List.filter_cons, if_pos (by simpa using e), List.length_cons, ih]
      have : (a ∈ b :: l) ↔ a ∈ l := by simp [Ne.symm e]
      by_cases c : a ∈ l
      · rw [if_pos c, if_pos (this.2 c)]
        have := List.length_pos_of_mem c
        simp only [List.length_cons]; omega
      · rw [if_neg c, if_neg (fun q => c (this.1 q))]; rfl
theorem cnt_remP {L : List (α × β)} (hn : L.Nodup) (s : α) (p : β) : cnt (remP L (s, p)) s = if (s, p) ∈ L then cnt L s - 1 else cnt L s := by
  have := len_filter_ne (hn.sublist (List.filter_sublist (p := fun q => decide (q.1 = s)))) (s, p)
  unfold cnt remP
  rw [List.filter_filter] at this ⊢
  have e : (fun a : α × β => decide (a.1 = s) && decide (a ≠ (s, p))) = fun a => decide (a ≠ (s, p)) && decide (a.1 = s) := by
    funext a; exact Bool.and_comm ..
  rw [e, this]
  simp
theorem names_remP {L : List (α × β)} {s x : α} {p : β} : x ∈ names (remP L (s, p)) ↔ x ∈ names L ∧ (x = s → cnt (remP L (s, p)) s ≠ 0) := by
  constructor
  · intro h
    refine ⟨?_, fun e => ?_⟩
    · obtain ⟨y, hy⟩ := mem_names.1 h
      exact mem_names.2 ⟨y, (mem_remP.1 hy).1⟩
    · subst e; exact cnt_pos.2 h
  · rintro ⟨h, k⟩
    by_cases e : x = s
    · subst e; exact cnt_pos.1 (k rfl)
    · obtain ⟨y, hy⟩ := mem_names.1 h
      exact mem_names.2 ⟨y, mem_remP.2 ⟨hy, fun e2 => e (congrArg Prod.fst e2)⟩⟩
theorem dn_remP (L : List (α × β)) (s : α) (p : β) : dn (remP L (s, p)) = if cnt (remP L (s, p)) s = 0 then (if s ∈ names L then dn L - 1 else dn L) else dn L := by
  by_cases c : cnt (remP L (s, p)) s = 0
  · rw [if_pos c]
    have := len_filter_ne (nodup_dl (names L)) s
    have hm : ((dl (names L)).filter (fun x => decide (x ≠ s))).length = dn (remP L (s, p)) := by
      refine len_eq_of_same ((nodup_dl _).sublist List.filter_sublist) (nodup_dl _) (fun a => ?_)
      rw [mem_dl, names_remP, List.mem_filter, mem_dl]
      simp [c]
    rw [← hm, this]
    simp only [mem_dl]
    rfl
  · rw [if_neg c]
    refine dl_len_same (fun a => ?_)
    rw [names_remP]
    exact ⟨fun h => h.1, fun h => ⟨h, fun _ => c⟩⟩

/-- The counts under distinct names sum up to the number of the pairs whose names are among them. -/
theorem sum_cnt (L : List (α × β)) {D : List α} (h : D.Nodup) : (D.map (cnt L)).sum = (L.filter (fun q => decide (q.1 ∈ D))).length := by
  induction D with
  | nil => rw [List.filter_eq_nil_iff.2 (by simp)]; rfl
  | cons a D ih =>
    rw [List.nodup_cons] at h
    rw [List.map_cons, List.sum_cons, ih h.2]
    clear ih
    unfold cnt
    induction L with
    | nil => rfl
    | cons q L ih =>
      have h1 := h.1
      by_cases e : q.1 = a
      · have e2 : ¬ q.1 ∈ D := by rw [e]; exact h1
        rw [List.filter_cons_of_pos (by simpa using e), List.filter_cons_of_neg (by simpa using e2), List.filter_cons_of_pos (by simp [e])]
        simp only [List.length_cons] at ih ⊢
        omega
      · by_cases e2 : q.1 ∈ D
        · rw [List.filter_cons_of_neg (by simpa using e), List.filter_cons_of_pos (by simpa using e2), List.filter_cons_of_pos (by simp [e2])]
          simp only [List.length_cons] at ih ⊢
          omega
        · rw [List.filter_cons_of_neg (by simpa using e), List.filter_cons_of_neg (by simpa using e2), List.filter_cons_of_neg (by simp [e, e2])]
          exact ih
theorem sum_cnt_all (L : List (α × β)) {D : List α} (h : D.Nodup) (hD : ∀ q ∈ L, q.1 ∈ D) : (D.map (cnt L)).sum = L.length := by
  rw [sum_cnt L h, List.filter_eq_self.2 (fun q hq => by simpa using hD q hq)]
end
end Go.Proofs.Qxb6608970aMods
