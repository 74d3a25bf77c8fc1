import Derived.Test.Qxb6608970aModsStep
namespace Go.Proofs.Qxb6608970aMods
open Go.RowKit
set_option linter.unusedVariables false
set_option maxRecDepth 100000

def delB (B : Str → Option Nat) (s : Str) : Str → Option Nat := fun x => if x = s then none else B x
theorem outerF_del (B : Str → Option Nat) (s : Str) : delK (outerF B) s = outerF (delB B s) := by
  funext x
  unfold delK outerF delB
  by_cases e : x = s <;> simp [e]
theorem delB_none {B : Str → Option Nat} {s : Str} (h : B s = none) : delB B s = B := by
  funext x
  unfold delB
  by_cases e : x = s
  · rw [if_pos e, e, h]
  · rw [if_neg e]
theorem innerF_rem (L : PairsL) (s : Str) (p : Nat) : delK (innerF L s) p = innerF (remP L (s, p)) s := by
  funext y
  unfold delK innerF
  simp only [mem_remP, ne_eq, Prod.mk.injEq, true_and]
  by_cases e : y = p
  · simp [e]
  · by_cases c : (s, y) ∈ L <;> simp [e, c]
theorem innerF_rem_ne (L : PairsL) {s s' : Str} (p : Nat) (h : s' ≠ s) : innerF (remP L (s, p)) s' = innerF L s' := by
  funext y
  unfold innerF
  simp [mem_remP, h]
theorem remP_self {L : PairsL} {q : Str × Nat} (h : q ∉ L) : remP L q = L := by
  unfold remP
  rw [List.filter_eq_self]
  intro x hx
  have : x ≠ q := fun e => h (e ▸ hx)
  simpa using this

def RemPost (base bx : Nat) (B : Str → Option Nat) (L : PairsL) (s : Str) (p : Nat) (w : World) (e : Ending) (w' : World) : Prop :=
  e = .returned (.tuple #[]) ∧ ∃ B', Idx base w' bx B' (remP L (s, p)) ∧ Frm w w' (Own bx B) ∧ ∀ k, Own bx B' k → Own bx B k

theorem rem33_none (base bx : Nat) (B : Str → Option Nat) (L : PairsL) (s : Str) (p : Nat) (w : World) (h : Hid (Idx base w bx B L)) (e : Hid (B s = none)) (hp : Hid (CellB w p)) :
    Calls Trym.prog 33 #[.map (some bx), .string s, .pointer (some ⟨p, 0, none⟩)] w (RemPost base bx B L s p w) := by
  have hl := h.out.look s
  rw [e.out] at hl
  have hd : ∀ ty, (Builtin.delete_ #[42, 38] ty #[.map none, .pointer (some ⟨p, 0, none⟩)]).run Trym.prog w = .ok (.tuple #[]) w := fun ty => del_nil (w := w) kp Trym.underlying42 hp.out ty
  have hlen : ∀ ty, (Builtin.len_ #[42] ty #[.map none]).run Trym.prog w = .ok (.int .i64 0) w := fun ty => len_nil Trym.underlying42 ty
  obtain ⟨w2, hrun0, hM, hg⟩ := h.out.outer.del ks Trym.underlying35 (fun _ _ => trivial) (a := s) trivial 0
  have hrun : ∀ ty, (Builtin.delete_ #[35, 9] ty #[.map (some bx), .string s]).run Trym.prog w = .ok (.tuple #[]) w2 := fun ty => hrun0
  have HF : Hid (RemPost base bx B L s p w (.returned (.tuple #[])) w2) := by
    have f := Frm.of_grown hg
    have e1 : (outerF B s).isSome = false := by unfold outerF; rw [e.out]; rfl
    rw [outerF_del, delB_none e.out, e1] at hM
    have hn : (s, p) ∉ L := fun c => by
      have := (h.out.mem s).2 (mem_names.2 ⟨p, c⟩)
      rw [e.out] at this; cases this
    refine ⟨rfl, B, ?_, f.imp (fun k _ e => .inl e), fun k o => o⟩
    rw [remP_self hn]
    refine ⟨hM, fun s' b' e' => (h.out.inner s' b' e').frm f (h.out.ne s' b' e'), h.out.inj, h.out.ne, h.out.mem, h.out.nodup, fun q hq => (h.out.dom q hq).frm f (fun e2 => h.out.outer.notCell (e2 ▸ h.out.dom q hq)), h.out.lo, h.out.los⟩
  clear hM hg h e hp hrun0
  go_enter Trym.func33, Trym.ntmps33
  go_wp2
  go_end0
  exact HF.out

theorem rem_some_idx {base bx b : Nat} {w w1 : World} {B : Str → Option Nat} {L : PairsL} {s : Str} {p : Nat} (h : Idx base w bx B L) (e : B s = some b)
    (hM : RMap w1 b ptrV (innerF (remP L (s, p)) s) (cnt (remP L (s, p)) s)) (f : Frm w w1 (fun k => k = b)) (hc : cnt (remP L (s, p)) s ≠ 0) : Idx base w1 bx B (remP L (s, p)) := by
  have hcl : ∀ q, CellB w q → CellB w1 q := fun q hq => hq.frm f (fun e2 => (h.inner s b e).notCell (e2 ▸ hq))
  refine ⟨?_, ?_, h.inj, h.ne, ?_, nodup_remP h.nodup _, fun q hq => hcl _ (h.dom q (mem_remP.1 hq).1), h.lo, h.los⟩
  · rw [dn_remP, if_neg hc]
    exact h.outer.frm f (fun e2 => h.ne s b e e2.symm)
  · intro s' b' e'
    by_cases c : s' = s
    · subst c
      rw [e] at e'
      cases e'
      exact hM
    · rw [innerF_rem_ne L p c, cnt_remP_ne L p c]
      exact (h.inner s' b' e').frm f (fun e2 => c (h.inj s' s b (e2 ▸ e') e))
  · intro x
    rw [h.mem, names_remP]
    exact ⟨fun h2 => ⟨h2, fun _ => hc⟩, fun h2 => h2.1⟩

theorem rem_last_idx {base bx b : Nat} {w w1 w2 : World} {B : Str → Option Nat} {L : PairsL} {s : Str} {p : Nat} (h : Idx base w bx B L) (e : B s = some b)
    (f : Frm w w1 (fun k => k = b)) (hc : cnt (remP L (s, p)) s = 0) (hM : RMap w2 bx (fun s : Str => Value.string s) (outerF (delB B s)) (dn L - 1)) (g : Frm w1 w2 (fun k => k = bx)) : Idx base w2 bx (delB B s) (remP L (s, p)) := by
  have hs : s ∈ names L := (h.mem s).1 (by rw [e]; rfl)
  have F : Frm w w2 (fun k => k = b ∨ k = bx) := f.trans g
  have hcl : ∀ q, CellB w q → CellB w2 q := fun q hq => hq.frm F (fun e2 => by
    rcases e2 with e2 | e2
    · exact (h.inner s b e).notCell (e2 ▸ hq)
    · exact h.outer.notCell (e2 ▸ hq))
  have hB : ∀ s' b', delB B s s' = some b' → s' ≠ s ∧ B s' = some b' := by
    intro s' b' e'
    unfold delB at e'
    by_cases c : s' = s
    · rw [if_pos c] at e'; cases e'
    · rw [if_neg c] at e'; exact ⟨c, e'⟩
  refine ⟨?_, ?_, fun s1 s2 b' e1 e2 => h.inj _ _ _ (hB _ _ e1).2 (hB _ _ e2).2, fun s' b' e' => h.ne _ _ (hB _ _ e').2, ?_, nodup_remP h.nodup _, fun q hq => hcl _ (h.dom q (mem_remP.1 hq).1), h.lo, fun s' b' e' => h.los _ _ (hB _ _ e').2⟩
  · rw [dn_remP, if_pos hc, if_pos hs]
    exact hM
  · intro s' b' e'
    obtain ⟨c, e'⟩ := hB s' b' e'
    rw [innerF_rem_ne L p c, cnt_remP_ne L p c]
    refine (h.inner s' b' e').frm F (fun e2 => ?_)
    rcases e2 with e2 | e2
    · exact c (h.inj s' s b (e2 ▸ e') e)
    · exact h.ne s' b' e' e2
  · intro x
    rw [names_remP, ← h.mem]
    unfold delB
    by_cases c : x = s
    · subst c; simp [hc]
    · rw [if_neg c]
      exact ⟨fun h2 => ⟨h2, fun h3 => absurd h3 c⟩, fun h2 => h2.1⟩

theorem rem33_some (base bx b : Nat) (B : Str → Option Nat) (L : PairsL) (s : Str) (p : Nat) (w : World) (h : Hid (Idx base w bx B L)) (e : Hid (B s = some b)) (hp : Hid (CellB w p)) :
    Calls Trym.prog 33 #[.map (some bx), .string s, .pointer (some ⟨p, 0, none⟩)] w (RemPost base bx B L s p w) := by
  have hl := h.out.look s
  rw [e.out] at hl
  obtain ⟨w1, hrun0, hM, hg⟩ := (h.out.inner s b e.out).del kp Trym.underlying42 (h.out.innerDom s) hp.out 0
  have hd : ∀ ty, (Builtin.delete_ #[42, 38] ty #[.map (some b), .pointer (some ⟨p, 0, none⟩)]).run Trym.prog w = .ok (.tuple #[]) w1 := fun ty => hrun0
  have f := Frm.of_grown hg
  have hM1 : RMap w1 b ptrV (innerF (remP L (s, p)) s) (cnt (remP L (s, p)) s) := by
    have e3 : (innerF L s p).isSome = decide ((s, p) ∈ L) := by
      unfold innerF
      by_cases c2 : (s, p) ∈ L <;> simp [c2]
    rw [innerF_rem, e3] at hM
    rw [cnt_remP h.out.nodup]
    by_cases c2 : (s, p) ∈ L
    · rw [if_pos c2]; simpa [c2] using hM
    · rw [if_neg c2]; simpa [c2] using hM
  have ho1 := h.out.outer.frm f (fun e2 => h.out.ne s b e.out e2.symm)
  have hl1 : (Instr.lookup 35 (.map (some bx)) (.string s) false).run Trym.prog w1 = .ok (.map (some b)) w1 := by
    have := ho1.look ks Trym.underlying35 (zero42 w1) (fun _ _ => trivial) (a := s) trivial false
    rw [this]
    unfold outerF
    rw [e.out]
    rfl
  have hlen : ∀ ty, (Builtin.len_ #[42] ty #[.map (some b)]).run Trym.prog w1 = .ok (.int .i64 (cnt (remP L (s, p)) s)) w1 := fun ty => hM1.len Trym.underlying42 ty
  have ho : Hid (∀ k, k < w.heap.size → k = b → Own bx B k) := fun k _ e2 => .inr ⟨s, e2 ▸ e.out⟩
  by_cases hc : cnt (remP L (s, p)) s = 0
  · rw [hc] at hlen
    obtain ⟨w2, hrun2, hM2, hg2⟩ := ho1.del ks Trym.underlying35 (fun _ _ => trivial) (a := s) trivial 0
    have hd2 : ∀ ty, (Builtin.delete_ #[35, 9] ty #[.map (some bx), .string s]).run Trym.prog w1 = .ok (.tuple #[]) w2 := fun ty => hrun2
    have HF : Hid (RemPost base bx B L s p w (.returned (.tuple #[])) w2) := by
      have g := Frm.of_grown hg2
      have e1 : (outerF B s).isSome = true := by unfold outerF; rw [e.out]; rfl
      rw [outerF_del, e1] at hM2
      refine ⟨rfl, delB B s, rem_last_idx h.out e.out f hc hM2 g, (f.trans g).imp (fun k hk e2 => ?_), ?_⟩
      · rcases e2 with e2 | e2
        · exact ho.out k hk e2
        · exact .inl e2
      · rintro k (o | ⟨s', e'⟩)
        · exact .inl o
        · unfold delB at e'
          by_cases c : s' = s
          · rw [if_pos c] at e'; cases e'
          · rw [if_neg c] at e'; exact .inr ⟨s', e'⟩
    clear hM hg h e hp hrun0 f hM1 ho1 hc hrun2 hM2 hg2 ho
    go_enter Trym.func33, Trym.ntmps33
    go_wp2
    go_end0
    exact HF.out
  · have HF : Hid (RemPost base bx B L s p w (.returned (.tuple #[])) w1) := ⟨rfl, B, rem_some_idx h.out e.out hM1 f hc, f.imp ho.out, fun k o => o⟩
    have hc1 : ((cnt (remP L (s, p)) s : Nat) : Int) ≠ 0 := by omega
    generalize cnt (remP L (s, p)) s = cc at *
    have hc2 : ((cc : Int) == 0) = false := by rw [beq_eq_false_iff_ne]; exact hc1
    clear hM hg h e hp hrun0 f hM1 ho1 ho
    go_enter Trym.func33, Trym.ntmps33
    go_wp2
    go_end0
    exact HF.out

theorem rem33 (base bx : Nat) (B : Str → Option Nat) (L : PairsL) (s : Str) (p : Nat) (w : World) (h : Hid (Idx base w bx B L)) (hp : Hid (CellB w p)) :
    Calls Trym.prog 33 #[.map (some bx), .string s, .pointer (some ⟨p, 0, none⟩)] w (RemPost base bx B L s p w) := by
  cases e : B s with
  | none => exact rem33_none base bx B L s p w h e hp
  | some b => exact rem33_some base bx b B L s p w h e hp
end Go.Proofs.Qxb6608970aMods
