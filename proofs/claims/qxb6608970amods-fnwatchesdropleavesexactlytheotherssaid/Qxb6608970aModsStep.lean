import Derived.Test.Qxb6608970aModsPlainA
namespace Go.Proofs.Qxb6608970aMods
open Go.RowKit
set_option linter.unusedVariables false
set_option maxRecDepth 100000

/-- Every block of cells stands as it stood. -/
def KeepC (w w' : World) : Prop := ∀ b, CellB w b → w'.heap[b]? = w.heap[b]?
theorem KeepC.refl (w : World) : KeepC w w := fun _ _ => rfl
theorem KeepC.cellB {w w' : World} (h : KeepC w w') {b : Nat} (c : CellB w b) : CellB w' b := by
  obtain ⟨x, t, hx⟩ := c
  exact ⟨x, t, (h b ⟨x, t, hx⟩).trans hx⟩
theorem KeepC.trans {a b c : World} (h : KeepC a b) (k : KeepC b c) : KeepC a c := fun x hx => (k x (h.cellB hx)).trans (h x hx)
theorem KeepC.of_frm {w w' : World} {p : Nat → Prop} (f : Frm w w' p) (hp : ∀ b, CellB w b → ¬ p b) : KeepC w w' := fun b hb => f.block b hb.lt (hp b hb)
theorem cellB_of_row {w : World} {b t n : Nat} {f : Nat → Value} (h : w.rowIs b t n f) : CellB w b := by
  obtain ⟨c, hb, _⟩ := h
  exact ⟨c, t, hb⟩
theorem KeepC.row {w w' : World} (h : KeepC w w') {b t n : Nat} {f : Nat → Value} (r : w.rowIs b t n f) : w'.rowIs b t n f := r.of_block (h b (cellB_of_row r))
theorem KeepC.cell {w w' : World} (h : KeepC w w') {b o : Nat} (c : CellB w b) : w'.cell? ⟨b, o, none⟩ = w.cell? ⟨b, o, none⟩ := World.cell?_of_block (w := w) (a := ⟨b, o, none⟩) (h b c)

/-- The index and the pool behind the first k entries, with the letters told. -/
structure Stx (base : Nat) (A : EntL) (bx bp k : Nat) (B : Str → Option Nat) (L : PairsL) (Q : Int → Option Nat) (w0 w : World) : Prop where
  idx : Idx base w bx B L
  pool : Pool base w bp Q
  apart : ¬ Own bx B bp
  bel : Below base w0 w
  hB : base ≤ w.heap.size
  mem : ∀ q, q ∈ L ↔ ∃ i, i < k ∧ q.1 = eN A i ∧ Q (eI A i) = some q.2
  all : ∀ i, i < k → (Q (eI A i)).isSome = true
  few : L.length ≤ k
def St (base : Nat) (A : EntL) (bx bp k : Nat) (w0 w : World) : Prop := ∃ B L Q, Stx base A bx bp k B L Q w0 w

theorem Stx.frm {base : Nat} {A : EntL} {bx bp k : Nat} {B : Str → Option Nat} {L : PairsL} {Q : Int → Option Nat} {w0 w w' : World} (h : Stx base A bx bp k B L Q w0 w) {p : Nat → Prop} (f : Frm w w' p)
    (h1 : ∀ x, Own bx B x → ¬ p x) (h2 : ¬ p bp) (h3 : ∀ x, CellB w x → ¬ p x) (h4 : ∀ x, x < base → ¬ p x) : Stx base A bx bp k B L Q w0 w' :=
  ⟨h.idx.frm f h1 (fun q hq => (h.idx.dom q hq).frm f (h3 _ (h.idx.dom q hq))), h.pool.frm f h2 h3, h.apart, h.bel.trans (f.below h.hB h4), Nat.le_trans h.hB f.size, h.mem, h.all, h.few⟩
theorem Stx.alloc {base : Nat} {A : EntL} {bx bp k : Nat} {B : Str → Option Nat} {L : PairsL} {Q : Int → Option Nat} {w0 w : World} (h : Stx base A bx bp k B L Q w0 w) (o : Obj) : Stx base A bx bp k B L Q w0 (w.alloc o) :=
  h.frm (Frm.alloc w o (fun _ => False)) (fun _ _ h => h) (fun h => h) (fun _ _ h => h) (fun _ _ h => h)
theorem Frm.drewN (w : World) (n : Nat) (p : Nat → Prop) : Frm w (w.drewN n) p := ⟨rfl, rfl, rfl, Nat.le_refl _, fun _ _ _ => rfl⟩
theorem Stx.drewN {base : Nat} {A : EntL} {bx bp k : Nat} {B : Str → Option Nat} {L : PairsL} {Q : Int → Option Nat} {w0 w : World} (h : Stx base A bx bp k B L Q w0 w) (n : Nat) : Stx base A bx bp k B L Q w0 (w.drewN n) :=
  h.frm (Frm.drewN w n (fun _ => False)) (fun _ _ h => h) (fun h => h) (fun _ _ h => h) (fun _ _ h => h)
theorem Stx.drew {base : Nat} {A : EntL} {bx bp k : Nat} {B : Str → Option Nat} {L : PairsL} {Q : Int → Option Nat} {w0 w : World} (h : Stx base A bx bp k B L Q w0 w) : Stx base A bx bp k B L Q w0 w.drew :=
  h.frm (Frm.drew w (fun _ => False)) (fun _ _ h => h) (fun h => h) (fun _ _ h => h) (fun _ _ h => h)
theorem Stx.setCell {base : Nat} {A : EntL} {bx bp k : Nat} {B : Str → Option Nat} {L : PairsL} {Q : Int → Option Nat} {w0 w : World} (h : Stx base A bx bp k B L Q w0 w) {b o : Nat} (hb : CellB w b) (hlo : base ≤ b) (v : Value) : Stx base A bx bp k B L Q w0 (w.setCell ⟨b, o, none⟩ v) := by
  have f := Frm.setCell w ⟨b, o, none⟩ v
  have hcb : ∀ x, CellB w x → CellB (w.setCell ⟨b, o, none⟩ v) x := by
    intro x ⟨c, t, hx⟩
    by_cases e : x = b
    · subst e
      exact ⟨c.setIfInBounds o v, t, by simp [World.setCell, Array.getElem?_modify, hx]⟩
    · exact (show CellB w x from ⟨c, t, hx⟩).frm f e
  refine ⟨h.idx.frm f (fun x hx e => h.idx.own_cell (show CellB w x by rw [e]; exact hb) hx) (fun q hq => hcb _ (h.idx.dom q hq)), ?_, h.apart, h.bel.setCell hlo _, by simpa [World.setCell] using h.hB, h.mem, h.all, h.few⟩
  obtain ⟨s, hs⟩ := h.pool.map
  exact ⟨⟨s, hs.frm f (fun e => h.pool.notCell (by rw [e]; exact hb))⟩, fun i c e => hcb _ (h.pool.cell i c e), h.pool.inj, h.pool.lo⟩

/-- Between the two calls: the watch b stands for the number of entry k. -/
def St16 (base : Nat) (A : EntL) (bx bp k b : Nat) (w0 w : World) : Prop := ∃ B L Q, Stx base A bx bp k B L Q w0 w ∧ Q (eI A k) = some b

def Post16 (base : Nat) (A : EntL) (bx bp k : Nat) (w0 w : World) (e : Ending) (w' : World) : Prop :=
  ∃ b, e = .returned (.pointer (some ⟨b, 0, none⟩)) ∧ St16 base A bx bp k b w0 w' ∧ KeepC w w'
def Post15 (base : Nat) (A : EntL) (bx bp k : Nat) (w0 w : World) (e : Ending) (w' : World) : Prop :=
  e = .returned (.tuple #[]) ∧ St base A bx bp (k + 1) w0 w' ∧ KeepC w w'

theorem step16 (base : Nat) (A : EntL) (bx bp k : Nat) (w0 w : World) (h : St base A bx bp k w0 w) :
    Calls Trym.prog 16 #[.map (some bp), .int .i64 (eI A k)] w (Post16 base A bx bp k w0 w) := by
  obtain ⟨B, L, Q, hs⟩ := h
  refine (watch16 base bp Q (eI A k) w hs.pool).mono ?_
  rintro e w' ⟨b, Q', rfl, hp, hb, hq, f⟩
  have h1 : ∀ x, Own bx B x → ¬ x = bp := fun x hx e => hs.apart (e ▸ hx)
  have h3 : ∀ x, CellB w x → ¬ x = bp := fun x hx e => hs.pool.notCell (e ▸ hx)
  refine ⟨b, rfl, ⟨B, L, Q', ⟨hs.idx.frm f h1 (fun q hq => (hs.idx.dom q hq).frm f (h3 _ (hs.idx.dom q hq))), hp, hs.apart, hs.bel.trans (f.below hs.hB (fun x hx e => by have := hs.pool.lo; omega)), Nat.le_trans hs.hB f.size, ?_, ?_, hs.few⟩, hb⟩, KeepC.of_frm f h3⟩
  · intro q
    rw [hs.mem]
    constructor
    · rintro ⟨i, hi, e1, e2⟩
      exact ⟨i, hi, e1, hq _ _ e2⟩
    · rintro ⟨i, hi, e1, e2⟩
      obtain ⟨c, hc⟩ := Option.isSome_iff_exists.1 (hs.all i hi)
      have := hq _ _ hc
      rw [e2] at this
      cases this
      exact ⟨i, hi, e1, hc⟩
  · intro i hi
    obtain ⟨c, hc⟩ := Option.isSome_iff_exists.1 (hs.all i hi)
    rw [hq _ _ hc]; rfl

theorem step15 (base : Nat) (A : EntL) (bx bp k b : Nat) (w0 w : World) (h : St16 base A bx bp k b w0 w) :
    Calls Trym.prog 15 #[.map (some bx), .string (eN A k), .pointer (some ⟨b, 0, none⟩)] w (Post15 base A bx bp k w0 w) := by
  obtain ⟨B, L, Q, hs, hb⟩ := h
  refine (add15 base bx B L (eN A k) b w hs.idx (hs.pool.cell _ _ hb) hs.hB).mono ?_
  rintro e w' ⟨rfl, B', hi', f, ho⟩
  have h3 : ∀ x, CellB w x → ¬ Own bx B x := fun x hx => hs.idx.own_cell hx
  refine ⟨rfl, ⟨B', _, Q, ⟨hi', hs.pool.frm f hs.apart h3, ?_, hs.bel.trans (f.below hs.hB (fun x hx o => by have := hs.idx.own_lo o; omega)), Nat.le_trans hs.hB f.size, ?_, ?_, ?_⟩⟩, KeepC.of_frm f h3⟩
  · intro o
    rcases ho _ o with o | o
    · exact hs.apart o
    · have := hs.pool.lt; omega
  · intro q
    rw [mem_addP, hs.mem]
    constructor
    · rintro (rfl | ⟨i, hi, e⟩)
      · exact ⟨k, by omega, rfl, hb⟩
      · exact ⟨i, by omega, e⟩
    · rintro ⟨i, hi, e1, e2⟩
      by_cases c : i = k
      · subst c
        rw [hb] at e2
        cases e2
        exact .inl (Prod.ext e1 rfl)
      · exact .inr ⟨i, by omega, e1, e2⟩
  · intro i hi
    by_cases c : i = k
    · subst c; rw [hb]; rfl
    · exact hs.all i (by omega)
  · have := hs.few
    unfold addP
    split
    · omega
    · simp only [List.length_cons]; omega
end Go.Proofs.Qxb6608970aMods
