import Derived.Test.Qxb6608970aModsIdx
namespace Go.Proofs.Qxb6608970aMods
open Go.RowKit
set_option linter.unusedVariables false
set_option maxRecDepth 100000

def updB (B : Str → Option Nat) (s : Str) (b : Nat) : Str → Option Nat := fun x => if x = s then some b else B x

theorem outerF_upd (B : Str → Option Nat) (s : Str) (b : Nat) : updK (outerF B) s (.map (some b)) = outerF (updB B s b) := by
  funext x
  unfold updK outerF updB
  by_cases e : x = s <;> simp [e]

theorem add_none_idx {base bx : Nat} {w w2 w3 : World} {B : Str → Option Nat} {L : PairsL} {s : Str} {p : Nat} (h : Idx base w bx B L) (e : B s = none) (hp : CellB w p) (hb : base ≤ w.heap.size)
    (hM2 : RMap w2 bx (fun s : Str => Value.string s) (outerF (updB B s w.heap.size)) (dn L + 1)) (hg2 : (w.alloc (.map #[] 0)).grownBy w2 (some bx))
    (hM3 : RMap w3 w.heap.size ptrV (updK (fun _ => none) p (.agg #[])) 1) (hg3 : w2.grownBy w3 (some w.heap.size)) : AddPost base bx B L s p w (.returned (.tuple #[])) w3 := by
  have hs : s ∉ names L := fun c => by have := (h.mem s).2 c; rw [e] at this; cases this
  have hnone : ∀ y, (s, y) ∉ L := fun y c => hs (mem_names.2 ⟨y, c⟩)
  have hbx := h.outer.lt
  have f1 := Frm.alloc w (.map #[] 0) (fun _ => False)
  have f2 := Frm.of_grown hg2
  have f3 := Frm.of_grown hg3
  have F : Frm w w3 (fun k => k = bx) := ((f1.trans f2).trans f3).imp (fun k hk h => by
    rcases h with (h | h) | h
    · exact h.elim
    · exact h
    · omega)
  have hcl : ∀ q, CellB w q → CellB w3 q := fun q hq => hq.frm F (fun e2 => h.outer.notCell (e2 ▸ hq))
  refine ⟨rfl, updB B s w.heap.size, ⟨?_, ?_, ?_, ?_, ?_, nodup_addP h.nodup _, ?_, h.lo, ?_⟩, F.imp (fun k _ e => .inl e), ?_⟩
  · rw [dn_addP, if_neg hs]
    exact hM2.frm f3 (by omega)
  · intro s' b' e'
    unfold updB at e'
    by_cases c : s' = s
    · subst c
      rw [if_pos rfl] at e'
      cases e'
      have e4 : innerF L s' = fun _ => none := by
        funext y; unfold innerF; rw [if_neg (hnone y)]
      rw [← innerF_add, e4, cnt_addP, if_neg (hnone p)]
      have e5 : cnt L s' = 0 := Classical.byContradiction fun c => hs (cnt_pos.1 c)
      rw [e5]
      exact hM3
    · rw [if_neg c] at e'
      rw [innerF_add_ne L p c, cnt_addP_ne L p c]
      exact (h.inner s' b' e').frm F (h.ne s' b' e')
  · intro s1 s2 b e1 e2
    unfold updB at e1 e2
    by_cases c1 : s1 = s
    · by_cases c2 : s2 = s
      · rw [c1, c2]
      · rw [if_pos c1] at e1
        rw [if_neg c2] at e2
        cases e1
        have := (h.inner s2 _ e2).lt
        omega
    · by_cases c2 : s2 = s
      · rw [if_neg c1] at e1
        rw [if_pos c2] at e2
        cases e2
        have := (h.inner s1 _ e1).lt
        omega
      · rw [if_neg c1] at e1
        rw [if_neg c2] at e2
        exact h.inj _ _ _ e1 e2
  · intro s' b' e'
    unfold updB at e'
    by_cases c : s' = s
    · rw [if_pos c] at e'
      cases e'
      omega
    · rw [if_neg c] at e'
      exact h.ne _ _ e'
  · intro x
    rw [names_addP, ← h.mem]
    unfold updB
    by_cases c : x = s <;> simp [c]
  · intro q hq
    rcases mem_addP.1 hq with rfl | hq
    · exact hcl _ hp
    · exact hcl _ (h.dom q hq)
  · intro s' b' e'
    unfold updB at e'
    by_cases c : s' = s
    · rw [if_pos c] at e'
      cases e'
      exact hb
    · rw [if_neg c] at e'
      exact h.los _ _ e'
  · rintro k (rfl | ⟨s', e'⟩)
    · exact .inl (.inl rfl)
    · unfold updB at e'
      by_cases c : s' = s
      · rw [if_pos c] at e'
        cases e'
        exact .inr (Nat.le_refl _)
      · rw [if_neg c] at e'
        exact .inl (.inr ⟨s', e'⟩)

theorem add30_none (base bx : Nat) (B : Str → Option Nat) (L : PairsL) (s : Str) (p : Nat) (w : World) (h : Hid (Idx base w bx B L)) (e : Hid (B s = none)) (hp : Hid (CellB w p)) (hb : Hid (base ≤ w.heap.size)) :
    Calls Trym.prog 30 #[.map (some bx), .string s, .pointer (some ⟨p, 0, none⟩)] w (AddPost base bx B L s p w) := by
  have hl := h.out.look s
  rw [e.out] at hl
  have f1 := Frm.alloc w (.map #[] 0) (fun _ => False)
  have hbx := h.out.outer.lt
  obtain ⟨w2, hrun2, hM2, hg2⟩ := (h.out.outer.frm f1 (fun h => h)).put ks Trym.underlying35 (fun _ _ => trivial) (a := s) trivial (.map (some w.heap.size))
  have e1 : (outerF B s).isSome = false := by unfold outerF; rw [e.out]; rfl
  rw [e1, outerF_upd] at hM2
  simp only [Bool.false_eq_true, if_false] at hM2
  have f2 := Frm.of_grown hg2
  have hin : RMap w2 w.heap.size ptrV (fun _ => none) 0 := (RMap.made w ptrV).frm f2 (by omega)
  have hl2 := hM2.look ks Trym.underlying35 (zero42 w2) (fun _ _ => trivial) (a := s) trivial false
  have e2 : (outerF (updB B s w.heap.size) s).getD (.map none) = .map (some w.heap.size) := by unfold outerF updB; simp
  rw [e2] at hl2
  simp only [Bool.false_eq_true, if_false] at hl2
  have hp2 : CellB w2 p := (hp.out.frm f1 (fun h => h)).frm f2 (fun e2 => h.out.outer.notCell (e2 ▸ hp.out))
  obtain ⟨w3, hrun3, hM3, hg3⟩ := hin.put kp Trym.underlying42 (fun a h => by cases h) hp2 (.agg #[])
  have HF : Hid (AddPost base bx B L s p w (.returned (.tuple #[])) w3) := add_none_idx h.out e.out hp.out hb.out hM2 hg2 hM3 hg3
  simp only [ptrV] at hrun3
  have q := fun w m => run_eql_nil42 w m
  have hmm := @run_makeMap Trym.prog
  clear hM2 hM3 hg2 hg3 h e hp hb f1 f2 hin e1 e2 hp2 hbx
  go_enter Trym.func30, Trym.ntmps30
  go_wp2
  go_end0
  exact HF.out

theorem add30 (base bx : Nat) (B : Str → Option Nat) (L : PairsL) (s : Str) (p : Nat) (w : World) (h : Hid (Idx base w bx B L)) (hp : Hid (CellB w p)) (hb : Hid (base ≤ w.heap.size)) :
    Calls Trym.prog 30 #[.map (some bx), .string s, .pointer (some ⟨p, 0, none⟩)] w (AddPost base bx B L s p w) := by
  cases e : B s with
  | none => exact add30_none base bx B L s p w h e hp hb
  | some b => exact add30_some base bx b B L s p w h e hp

theorem add15 (base bx : Nat) (B : Str → Option Nat) (L : PairsL) (s : Str) (p : Nat) (w : World) (h : Hid (Idx base w bx B L)) (hp : Hid (CellB w p)) (hb : Hid (base ≤ w.heap.size)) :
    Calls Trym.prog 15 #[.map (some bx), .string s, .pointer (some ⟨p, 0, none⟩)] w (AddPost base bx B L s p w) := by
  have HC : Hid (Calls Trym.prog 30 #[.map (some bx), .string s, .pointer (some ⟨p, 0, none⟩)] w (AddPost base bx B L s p w)) := add30 base bx B L s p w h hp hb
  go_enter Trym.func15, Trym.ntmps15
  go_wp2_with fail
  refine HC.out.mono ?_
  rintro e w' ⟨rfl, h⟩
  have H : Hid _ := h
  clear h
  go_wp2_with fail
  go_end0
  exact ⟨rfl, H.out⟩

def watchCells (s : Str) (a : Option Addr) (n c : Nat) (ended : Bool) : Array Value := #[.string s, .slice a n c, .chan none, .bool ended]
theorem new23 (s : Str) (a : Option Addr) (n c : Nat) (w : World) :
    Calls Trym.prog 23 #[.string s, .slice a n c] w fun e w' => e = .returned (.pointer (some ⟨w.heap.size, 0, none⟩)) ∧ w' = w.alloc (.cells (watchCells s a n c false) 73) := by
  go_enter Trym.func23, Trym.ntmps23
  go_wp2
  go_ret
  exact ⟨rfl, rfl⟩
end Go.Proofs.Qxb6608970aMods
