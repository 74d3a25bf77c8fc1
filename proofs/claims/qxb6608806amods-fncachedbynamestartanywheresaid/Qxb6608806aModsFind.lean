import Derived.Test.Qxb6608806aModsEnt
namespace Go.Proofs.Qxb6608806aMods
open Go.RowKit
set_option linter.unusedVariables false
set_option maxRecDepth 100000

/-- Of the old blocks only those of which p speaks may have turned. -/
structure Frm (w w' : World) (p : Nat → Prop) : Prop where
  os : w'.os = w.os
  tape : w'.tape = w.tape
  output : w'.output = w.output
  size : w.heap.size ≤ w'.heap.size
  block : ∀ k, k < w.heap.size → ¬ p k → w'.heap[k]? = w.heap[k]?

theorem Frm.refl (w : World) (p : Nat → Prop) : Frm w w p := ⟨rfl, rfl, rfl, Nat.le_refl _, fun _ _ _ => rfl⟩
theorem Frm.trans {a b c : World} {p : Nat → Prop} (h : Frm a b p) (k : Frm b c p) : Frm a c p :=
  ⟨k.os.trans h.os, k.tape.trans h.tape, k.output.trans h.output, Nat.le_trans h.size k.size, fun i hi hp =>
    (k.block i (Nat.lt_of_lt_of_le hi h.size) hp).trans (h.block i hi hp)⟩
theorem Frm.imp {w w' : World} {p q : Nat → Prop} (h : Frm w w' p) (i : ∀ k, k < w.heap.size → p k → q k) : Frm w w' q :=
  ⟨h.os, h.tape, h.output, h.size, fun k hk hq => h.block k hk (fun e => hq (i k hk e))⟩
theorem Frm.setCell (w : World) (a : Addr) (u : Value) : Frm w (w.setCell a u) (fun k => k = a.block) :=
  ⟨rfl, rfl, rfl, by simp [World.setCell], fun k hk hp => Below.heap_setCell _ _ _ _ hp⟩
theorem Frm.below {w w' : World} {p : Nat → Prop} {B : Nat} (h : Frm w w' p) (hB : B ≤ w.heap.size) (hp : ∀ k, k < B → ¬ p k) : Below B w w' :=
  ⟨h.os, h.tape, h.output, h.size, fun k hk => h.block k (Nat.lt_of_lt_of_le hk hB) (hp k hk)⟩
theorem Frm.cell {w w' : World} {p : Nat → Prop} (h : Frm w w' p) {a : Addr} (ha : a.block < w.heap.size) (hp : ¬ p a.block) : w'.cell? a = w.cell? a := World.cell?_of_block (w := w) (h.block _ ha hp)
theorem Frm.frozen {w w' : World} {p : Nat → Prop} (h : Frm w w' p) {a : Addr} (ha : a.block < w.heap.size) (hp : ¬ p a.block) : w'.frozen? a = w.frozen? a := World.frozen?_of_block (w := w) (h.block _ ha hp)

theorem lt_of_cell {w : World} {a : Addr} {v : Value} (h : w.cell? a = some v) : a.block < w.heap.size := by
  unfold World.cell? at h
  by_cases hb : a.block < w.heap.size
  · exact hb
  · rw [Array.getElem?_eq_none (by omega)] at h
    cases h

/-- The entries: the name of each. -/
def EntAt (w : World) (g n : Nat) (N : List ByteArray) : Prop := ∀ i, i < n → w.cell? ⟨g, i * 44 + 34, none⟩ = some (.string (nm N i))

/-- A variable that holds the entries from the k-th on, m of them. -/
structure Was (w : World) (p g n k m : Nat) (A : Option Addr) : Prop where
  cell : w.cell? ⟨p, 0, none⟩ = some (.slice A m m)
  free : w.frozen? ⟨p, 0, none⟩ = false
  at_ : 0 < m → A = some ⟨g, k * 44, none⟩

theorem Frm.ent {w w' : World} {p : Nat → Prop} (h : Frm w w' p) {g n : Nat} {N : List ByteArray} (e : EntAt w g n N) (hp : ¬ p g) : EntAt w' g n N := fun i hi => by
  rw [h.cell (a := ⟨g, i * 44 + 34, none⟩) (lt_of_cell (e i hi)) hp]; exact e i hi

/-- What the look-up leaves: from the l-th entry on. -/
def FindPost (p g n l : Nat) (N : List ByteArray) (q : ByteArray) (w : World) (e : Ending) (w' : World) : Prop :=
  e = .returned (.pointer (if l < n ∧ same (nm N l) q = true then some ⟨g, l * 44, none⟩ else none)) ∧ (∃ A, Was w' p g n l (n - l) A) ∧ Frm w w' (fun k => k = p)

set_option maxHeartbeats 1000000 in
theorem find11 (p g n k0 l : Nat) (N : List ByteArray) (q : ByteArray) (A0 : Option Addr) (w : World) (hpg : p ≠ g) (hn : n ≤ 1048576) (he : Hid (EntAt w g n N)) (hw : Hid (Was w p g n k0 (n - k0) A0)) (hk : k0 ≤ l) (hl : l ≤ n)
    (hlo : Hid (∀ i, k0 ≤ i → i < l → lt (nm N i) q = true)) (hhi : Hid (l < n → lt (nm N l) q = false)) :
    Calls Trym.prog 11 #[.pointer (some ⟨p, 0, none⟩), .string q] w (FindPost p g n l N q w) := by
  go_enter Trym.func11, Trym.ntmps11
  go_wp2
  go_loopg [20] (n - k0) (fun r v wr => ∃ k A, k0 ≤ k ∧ k ≤ l ∧ r = n - k ∧ Was wr p g n k (n - k) A ∧ Frm w wr (fun b => b = p))
  case atStart => exact ⟨k0, A0, Nat.le_refl _, hk, rfl, hw.out, Frm.refl _ _⟩
  case round =>
    clear hw
    obtain ⟨k, A, h0, h1, hr, hwas, hfr⟩ := hrel
    have HR : Hid (gk = n - k) := hr
    have HF : Hid (Frm w wr (fun b => b = p)) := hfr
    have HE : Hid (EntAt wr g n N) := hfr.ent he.out (fun e => hpg e.symm)
    clear hr hfr
    by_cases hlt : k < l
    · have hAk := hwas.at_ (by omega)
      subst hAk
      have hc := hwas.cell
      have hf := hwas.free
      have hcn : wr.cell? ⟨g, k * 44 + 34, none⟩ = some (.string (nm N k)) := HE.out k (by omega)
      have hless : Op.bytesLess (nm N k).toList q.toList = true := hlo.out k h0 hlt
      obtain ⟨m, hm⟩ : ∃ m, m = n - k := ⟨_, rfl⟩
      rw [← hm] at hc
      have hm1 : 1 ≤ m := by omega
      have hm2 : m ≤ 1048576 := by omega
      have HM : Hid (m = n - k) := hm
      clear hm hwas
      generalize nm N k = x at *
      by_cases hm11 : m = 1
      · subst hm11
        go_wp2
        go_roundg (n - (k + 1))
        case measure => rw [HR.out]; omega
        case rel =>
          have hn1 : n - (k + 1) = 0 := by have := HM.out; omega
          refine ⟨k + 1, some ⟨g, k * 44, none⟩, by omega, by omega, rfl, ⟨?_, ?_, fun h => by omega⟩, HF.out.trans (Frm.setCell wr ⟨p, 0, none⟩ _)⟩
          · rw [hn1]; exact World.cell?_setCell_same _ _ _ hc
          · rw [World.frozen?_setCell]; exact hf
      · have hm3 : 2 ≤ m := by omega
        go_wp2
        go_roundg (n - (k + 1))
        case measure => rw [HR.out]; omega
        case rel =>
          have hn1 : n - (k + 1) = m - 1 := by have := HM.out; omega
          refine ⟨k + 1, some ⟨g, k * 44 + 44, none⟩, by omega, by omega, rfl, ⟨?_, ?_, fun h => ?_⟩, HF.out.trans (Frm.setCell wr ⟨p, 0, none⟩ _)⟩
          · rw [hn1]; exact World.cell?_setCell_same _ _ _ hc
          · rw [World.frozen?_setCell]; exact hf
          · rw [show k * 44 + 44 = (k + 1) * 44 by omega]
    · obtain rfl : k = l := by omega
      have hc := hwas.cell
      have HW : Hid (∃ A, Was wr p g n k (n - k) A) := ⟨A, hwas⟩
      by_cases hkn : k < n
      · have hAk := hwas.at_ (by omega)
        subst hAk
        have hcn : wr.cell? ⟨g, k * 44 + 34, none⟩ = some (.string (nm N k)) := HE.out k hkn
        have hless : Op.bytesLess (nm N k).toList q.toList = false := hhi.out hkn
        have HS : Hid (same (nm N k) q = ((nm N k).toList == q.toList)) := rfl
        obtain ⟨m, hm⟩ : ∃ m, m = n - k := ⟨_, rfl⟩
        rw [← hm] at hc
        have hm1 : 1 ≤ m := by omega
        have hm2 : m ≤ 1048576 := by omega
        clear hm hwas
        obtain ⟨x, hx⟩ : ∃ x, x = nm N k := ⟨_, rfl⟩
        rw [← hx] at hcn hless HS
        have HX : Hid (x = nm N k) := hx
        clear hx
        cases hq : (x.toList == q.toList) with
        | true =>
          have HP : Hid (k < n ∧ same (nm N k) q = true) := ⟨hkn, by rw [← HX.out, HS.out]; exact hq⟩
          go_wp2
          go_ret
          exact ⟨by rw [if_pos HP.out]; rfl, HW.out, HF.out⟩
        | false =>
          have HP : Hid (¬ (k < n ∧ same (nm N k) q = true)) := fun h => by
            have := h.2
            rw [← HX.out, HS.out, hq] at this
            cases this
          go_wp2
          go_ret
          exact ⟨by rw [if_neg HP.out]; rfl, HW.out, HF.out⟩
      · have hz : n - k = 0 := by omega
        rw [hz] at hc
        have HP : Hid (¬ (k < n ∧ same (nm N k) q = true)) := fun h => hkn h.1
        clear hwas hz
        go_wp2
        go_ret
        exact ⟨by rw [if_neg HP.out]; rfl, HW.out, HF.out⟩

theorem find9 (p g n k0 l : Nat) (N : List ByteArray) (q : ByteArray) (A0 : Option Addr) (w : World) (hpg : p ≠ g) (hn : n ≤ 1048576) (he : Hid (EntAt w g n N)) (hw : Hid (Was w p g n k0 (n - k0) A0)) (hk : k0 ≤ l) (hl : l ≤ n)
    (hlo : Hid (∀ i, k0 ≤ i → i < l → lt (nm N i) q = true)) (hhi : Hid (l < n → lt (nm N l) q = false)) :
    Calls Trym.prog 9 #[.pointer (some ⟨p, 0, none⟩), .string q] w (FindPost p g n l N q w) := by
  have HC : Hid (Calls Trym.prog 11 #[.pointer (some ⟨p, 0, none⟩), .string q] w (FindPost p g n l N q w)) := find11 p g n k0 l N q A0 w hpg hn he hw hk hl hlo hhi
  clear hw he
  go_enter Trym.func9, Trym.ntmps9
  go_wp2_with fail
  refine HC.out.mono ?_
  rintro e w' ⟨rfl, h1, h2⟩
  have H1 : Hid _ := h1
  have H2 : Hid _ := h2
  clear h1 h2 HC
  generalize hP : (if l < n ∧ same (nm N l) q = true then some (⟨g, l * 44, none⟩ : Addr) else none) = P
  have HP : Hid ((if l < n ∧ same (nm N l) q = true then some (⟨g, l * 44, none⟩ : Addr) else none) = P) := hP
  clear hP
  go_wp2_with fail
  go_ret
  exact ⟨by rw [HP.out]; rfl, H1.out, H2.out⟩
end Go.Proofs.Qxb6608806aMods
