import Derived.Test.Qxb6608970aModsRem
import Derived.Deep.RegionHeld3
namespace Go.Proofs.Qxb6608970aMods
open Go.RowKit
set_option linter.unusedVariables false
set_option maxRecDepth 100000

def nm (N : List Str) (i : Nat) : Str := N.getD i ByteArray.empty
/-- A slice of strings whose row lies below M. -/
structure Strs (M : Nat) (w : World) (a : Option Addr) (n : Nat) (N : List Str) : Prop where
  len : N.length = n
  max : n ≤ maxLen
  row : 0 < n → ∃ b o, a = some ⟨b, o, none⟩ ∧ b < M ∧ ∀ i, i < n → w.cell? ⟨b, o + i, none⟩ = some (.string (nm N i))
  sz : ∀ i, i < n → (nm N i).size ≤ maxLen
theorem Strs.below {M : Nat} {w w' : World} {a : Option Addr} {n : Nat} {N : List Str} (h : Strs M w a n N) (hb : Below M w w') : Strs M w' a n N :=
  ⟨h.len, h.max, fun h0 => by
    obtain ⟨b, o, e, hl, hc⟩ := h.row h0
    exact ⟨b, o, e, hl, fun i hi => by rw [hb.cell (p := ⟨b, o + i, none⟩) hl]; exact hc i hi⟩, h.sz⟩
theorem Strs.mono {M M' : Nat} {w : World} {a : Option Addr} {n : Nat} {N : List Str} (h : Strs M w a n N) (hb : M ≤ M') : Strs M' w a n N :=
  ⟨h.len, h.max, fun h0 => by
    obtain ⟨b, o, e, hl, hc⟩ := h.row h0
    exact ⟨b, o, e, by omega, hc⟩, h.sz⟩

theorem new20 (w : World) : Calls Trym.prog 20 #[] w fun e w' => e = .returned (.pointer (some ⟨w.heap.size + 1 + 1, 0, none⟩)) ∧ ∃ v0 v1, w' = ((w.alloc (.map #[] 0)).alloc (.map #[] 0)).alloc (.cells #[v0, v1, .map (some w.heap.size), .map (some (w.heap.size + 1))] 69) := by
  have hmm := @run_makeMap Trym.prog
  go_enter Trym.func20, Trym.ntmps20
  go_wp2
  go_ret
  exact ⟨rfl, _, _, rfl⟩
theorem by21 (b : Nat) (v : Value) (w : World) (hc : w.cell? ⟨b, 2, none⟩ = some v) : Calls Trym.prog 21 #[.pointer (some ⟨b, 0, none⟩)] w fun e w' => e = .returned v ∧ w' = w := by
  go_enter Trym.func21, Trym.ntmps21
  go_wp2
  go_ret
  exact ⟨rfl, rfl⟩
theorem by22 (b : Nat) (v : Value) (w : World) (hc : w.cell? ⟨b, 3, none⟩ = some v) : Calls Trym.prog 22 #[.pointer (some ⟨b, 0, none⟩)] w fun e w' => e = .returned v ∧ w' = w := by
  go_enter Trym.func22, Trym.ntmps22
  go_wp2
  go_ret
  exact ⟨rfl, rfl⟩
theorem ended26 (b : Nat) (v : Value) (w : World) (hc : w.cell? ⟨b, 3, none⟩ = some v) : Calls Trym.prog 26 #[.pointer (some ⟨b, 0, none⟩)] w fun e w' => e = .returned v ∧ w' = w := by
  go_enter Trym.func26, Trym.ntmps26
  go_wp2
  go_ret
  exact ⟨rfl, rfl⟩

/-- Two indexes, each in memory of its own, above M. -/
structure Two (M br bc : Nat) (B1 B2 : Str → Option Nat) (L1 L2 : PairsL) (w : World) : Prop where
  i1 : Idx M w br B1 L1
  i2 : Idx M w bc B2 L2
  apart : ∀ x, Own br B1 x → ¬ Own bc B2 x
  hM : M ≤ w.heap.size
def T2 (M br bc : Nat) (L1 L2 : PairsL) (w : World) : Prop := ∃ B1 B2, Two M br bc B1 B2 L1 L2 w

theorem Two.frm {M br bc : Nat} {B1 B2 : Str → Option Nat} {L1 L2 : PairsL} {w w' : World} (h : Two M br bc B1 B2 L1 L2 w) {p : Nat → Prop} (f : Frm w w' p) (h1 : ∀ x, Own br B1 x → ¬ p x) (h2 : ∀ x, Own bc B2 x → ¬ p x) (h3 : ∀ x, CellB w x → CellB w' x) : Two M br bc B1 B2 L1 L2 w' :=
  ⟨h.i1.frm f h1 (fun q hq => h3 _ (h.i1.dom q hq)), h.i2.frm f h2 (fun q hq => h3 _ (h.i2.dom q hq)), h.apart, Nat.le_trans h.hM f.size⟩
theorem T2.alloc {M br bc : Nat} {L1 L2 : PairsL} {w : World} (h : T2 M br bc L1 L2 w) (o : Obj) : T2 M br bc L1 L2 (w.alloc o) := by
  obtain ⟨B1, B2, h⟩ := h
  have f := Frm.alloc w o (fun _ => False)
  exact ⟨B1, B2, h.frm f (fun _ _ h => h) (fun _ _ h => h) (fun x hx => hx.frm f (fun h => h))⟩
theorem T2.drewN {M br bc : Nat} {L1 L2 : PairsL} {w : World} (h : T2 M br bc L1 L2 w) (n : Nat) : T2 M br bc L1 L2 (w.drewN n) := by
  obtain ⟨B1, B2, h⟩ := h
  have f := Frm.drewN w n (fun _ => False)
  exact ⟨B1, B2, h.frm f (fun _ _ h => h) (fun _ _ h => h) (fun x hx => hx.frm f (fun h => h))⟩
theorem T2.drew {M br bc : Nat} {L1 L2 : PairsL} {w : World} (h : T2 M br bc L1 L2 w) : T2 M br bc L1 L2 w.drew := by
  obtain ⟨B1, B2, h⟩ := h
  have f := Frm.drew w (fun _ => False)
  exact ⟨B1, B2, h.frm f (fun _ _ h => h) (fun _ _ h => h) (fun x hx => hx.frm f (fun h => h))⟩
theorem cellB_setCell {w : World} {b o : Nat} {v : Value} {x : Nat} (h : CellB w x) : CellB (w.setCell ⟨b, o, none⟩ v) x := by
  obtain ⟨c, t, hx⟩ := h
  by_cases e : x = b
  · subst e
    exact ⟨c.setIfInBounds o v, t, by simp [World.setCell, Array.getElem?_modify, hx]⟩
  · exact (show CellB w x from ⟨c, t, hx⟩).frm (Frm.setCell w ⟨b, o, none⟩ v) e
theorem T2.setCell {M br bc : Nat} {L1 L2 : PairsL} {w : World} (h : T2 M br bc L1 L2 w) {b o : Nat} (hb : CellB w b) (v : Value) : T2 M br bc L1 L2 (w.setCell ⟨b, o, none⟩ v) := by
  obtain ⟨B1, B2, h⟩ := h
  exact ⟨B1, B2, h.frm (Frm.setCell w ⟨b, o, none⟩ v) (fun x hx e => h.i1.own_cell (show CellB w x by rw [e]; exact hb) hx) (fun x hx e => h.i2.own_cell (show CellB w x by rw [e]; exact hb) hx) (fun x hx => cellB_setCell hx)⟩

def IPost (M br bc : Nat) (L1 L2 : PairsL) (w : World) (e : Ending) (w' : World) : Prop := e = .returned (.tuple #[]) ∧ T2 M br bc L1 L2 w' ∧ KeepC w w' ∧ Below M w w'

theorem two_step1 {M br bc : Nat} {B1 B2 : Str → Option Nat} {L1 L2 L' : PairsL} {w w' : World} (h : Two M br bc B1 B2 L1 L2 w) {B' : Str → Option Nat} (hi : Idx M w' br B' L') (f : Frm w w' (Own br B1)) (ho : ∀ k, Own br B' k → Own br B1 k ∨ w.heap.size ≤ k) : T2 M br bc L' L2 w' ∧ KeepC w w' ∧ Below M w w' := by
  have h3 : ∀ x, CellB w x → ¬ Own br B1 x := fun x hx => h.i1.own_cell hx
  refine ⟨⟨B', B2, hi, h.i2.frm f (fun x hx o => h.apart x o hx) (fun q hq => (h.i2.dom q hq).frm f (h3 _ (h.i2.dom q hq))), fun x o o2 => ?_, Nat.le_trans h.hM f.size⟩, KeepC.of_frm f h3, f.below h.hM (fun x hx o => by have := h.i1.own_lo o; omega)⟩
  rcases ho x o with o | o
  · exact h.apart x o o2
  · have := h.i2.own_lt o2; omega
theorem two_step2 {M br bc : Nat} {B1 B2 : Str → Option Nat} {L1 L2 L' : PairsL} {w w' : World} (h : Two M br bc B1 B2 L1 L2 w) {B' : Str → Option Nat} (hi : Idx M w' bc B' L') (f : Frm w w' (Own bc B2)) (ho : ∀ k, Own bc B' k → Own bc B2 k ∨ w.heap.size ≤ k) : T2 M br bc L1 L' w' ∧ KeepC w w' ∧ Below M w w' := by
  have h3 : ∀ x, CellB w x → ¬ Own bc B2 x := fun x hx => h.i2.own_cell hx
  refine ⟨⟨B1, B', h.i1.frm f (fun x hx o => h.apart x hx o) (fun q hq => (h.i1.dom q hq).frm f (h3 _ (h.i1.dom q hq))), hi, fun x o2 o => ?_, Nat.le_trans h.hM f.size⟩, KeepC.of_frm f h3, f.below h.hM (fun x hx o => by have := h.i2.own_lo o; omega)⟩
  rcases ho x o with o | o
  · exact h.apart x o2 o
  · have := h.i1.own_lt o2; omega

theorem addBr {M br bc : Nat} {L1 L2 : PairsL} (s : Str) (p : Nat) {w : World} (h : T2 M br bc L1 L2 w) (hp : CellB w p) :
    Calls Trym.prog 15 #[.map (some br), .string s, .pointer (some ⟨p, 0, none⟩)] w (IPost M br bc (addP L1 (s, p)) L2 w) := by
  obtain ⟨B1, B2, h⟩ := h
  refine (add15 M br B1 L1 s p w h.i1 hp h.hM).mono ?_
  rintro e w' ⟨rfl, B', hi, f, ho⟩
  exact ⟨rfl, two_step1 h hi f ho⟩
theorem addBc {M br bc : Nat} {L1 L2 : PairsL} (s : Str) (p : Nat) {w : World} (h : T2 M br bc L1 L2 w) (hp : CellB w p) :
    Calls Trym.prog 15 #[.map (some bc), .string s, .pointer (some ⟨p, 0, none⟩)] w (IPost M br bc L1 (addP L2 (s, p)) w) := by
  obtain ⟨B1, B2, h⟩ := h
  refine (add15 M bc B2 L2 s p w h.i2 hp h.hM).mono ?_
  rintro e w' ⟨rfl, B', hi, f, ho⟩
  exact ⟨rfl, two_step2 h hi f ho⟩
theorem remBr {M br bc : Nat} {L1 L2 : PairsL} (s : Str) (p : Nat) {w : World} (h : T2 M br bc L1 L2 w) (hp : CellB w p) :
    Calls Trym.prog 33 #[.map (some br), .string s, .pointer (some ⟨p, 0, none⟩)] w (IPost M br bc (remP L1 (s, p)) L2 w) := by
  obtain ⟨B1, B2, h⟩ := h
  refine (rem33 M br B1 L1 s p w h.i1 hp).mono ?_
  rintro e w' ⟨rfl, B', hi, f, ho⟩
  exact ⟨rfl, two_step1 h hi f (fun k o => .inl (ho k o))⟩
theorem remBc {M br bc : Nat} {L1 L2 : PairsL} (s : Str) (p : Nat) {w : World} (h : T2 M br bc L1 L2 w) (hp : CellB w p) :
    Calls Trym.prog 33 #[.map (some bc), .string s, .pointer (some ⟨p, 0, none⟩)] w (IPost M br bc L1 (remP L2 (s, p)) w) := by
  obtain ⟨B1, B2, h⟩ := h
  refine (rem33 M bc B2 L2 s p w h.i2 hp).mono ?_
  rintro e w' ⟨rfl, B', hi, f, ho⟩
  exact ⟨rfl, two_step2 h hi f (fun k o => .inl (ho k o))⟩

def addAll (L : PairsL) (N : List Str) (p : Nat) : Nat → PairsL
  | 0 => L
  | k + 1 => addP (addAll L N p k) (nm N k, p)
def remAll (L : PairsL) (N : List Str) (p : Nat) : Nat → PairsL
  | 0 => L
  | k + 1 => remP (remAll L N p k) (nm N k, p)
theorem mem_addAll {L : PairsL} {N : List Str} {p k : Nat} {q : Str × Nat} : q ∈ addAll L N p k ↔ q ∈ L ∨ ∃ i, i < k ∧ q = (nm N i, p) := by
  induction k with
  | zero => simp [addAll]
  | succ k ih =>
    rw [addAll, mem_addP, ih]
    constructor
    · rintro (h | h | ⟨i, hi, h⟩)
      · exact .inr ⟨k, by omega, h⟩
      · exact .inl h
      · exact .inr ⟨i, by omega, h⟩
    · rintro (h | ⟨i, hi, h⟩)
      · exact .inr (.inl h)
      · by_cases e : i = k
        · subst e; exact .inl h
        · exact .inr (.inr ⟨i, by omega, h⟩)
theorem mem_remAll {L : PairsL} {N : List Str} {p k : Nat} {q : Str × Nat} : q ∈ remAll L N p k ↔ q ∈ L ∧ ∀ i, i < k → q ≠ (nm N i, p) := by
  induction k with
  | zero => simp [remAll]
  | succ k ih =>
    rw [remAll, mem_remP, ih]
    constructor
    · rintro ⟨⟨h1, h2⟩, h3⟩
      refine ⟨h1, fun i hi => ?_⟩
      by_cases e : i = k
      · subst e; exact h3
      · exact h2 i (by omega)
    · rintro ⟨h1, h2⟩
      exact ⟨⟨h1, fun i hi => h2 i (by omega)⟩, h2 k (by omega)⟩
end Go.Proofs.Qxb6608970aMods
