import Derived.Test.Qxb6608970aModsClo
namespace Go.Proofs.Qxb6608970aMods
open Go.RowKit
set_option linter.unusedVariables false
set_option maxRecDepth 100000

theorem Oth.mono {M M' : Nat} {w : World} {a : Option Addr} {n : Nat} {O : OthL} (h : Oth M w a n O) (hb : M ≤ M') : Oth M' w a n O :=
  ⟨h.len, h.max, fun h0 => by
    obtain ⟨b, o, e, hl, hc⟩ := h.row h0
    refine ⟨b, o, e, by omega, fun i hi => ⟨(hc i hi).c0, ?_⟩⟩
    obtain ⟨a, l, c, h1, h2, h3⟩ := (hc i hi).c1
    exact ⟨a, l, c, h1, h2.mono hb, h3⟩, h.sz⟩

theorem cell_of_blk {w : World} {b o : Nat} {c : Array Value} {t : TypeId} {v : Value} (h : w.heap[b]? = some (.cells c t (0, 0))) (hv : c[o]? = some v) : w.cell? ⟨b, o, none⟩ = some v := by
  unfold World.cell?
  simp only [h]
  exact hv

def owF (P : Nat → Nat) (k : Nat) : Nat → Value := fun j => if j < k then ptrV (P j) else .pointer none

/-- The two indexes, the hub, the row of the others' watches: kr of them are made, km are entered. -/
structure Fil (O : OthL) (n M br bc hb bo kr km : Nat) (P : Nat → Nat) (L1 L2 : PairsL) (w2 wr : World) : Prop where
  t2 : T2 M br bc L1 L2 wr
  hub : Hub wr hb br bc
  row : wr.rowIs bo 38 n (owF P kr)
  wat : ∀ i, i < kr → CellB wr (P i) ∧ wr.cell? ⟨P i, 3, none⟩ = some (.bool false) ∧ bo < P i
  inj : ∀ i j, i < kr → j < kr → P i = P j → i = j
  m1 : ∀ q, q ∈ L1 ↔ ∃ i, i < km ∧ q = (rN O i, P i)
  m2 : ∀ q, q ∈ L2 ↔ ∃ i, i < km ∧ ∃ v, v < (cN O i).length ∧ q = (nm (cN O i) v, P i)
  bel : Below M w2 wr
  lo : M ≤ hb ∧ hb < bo

theorem T2.hM {M br bc : Nat} {L1 L2 : PairsL} {w : World} (h : T2 M br bc L1 L2 w) : M ≤ w.heap.size := by
  obtain ⟨_, _, h⟩ := h; exact h.hM

theorem Hub.keep {w w' : World} {hb br bc : Nat} (h : Hub w hb br bc) (e : w'.heap[hb]? = w.heap[hb]?) : Hub w' hb br bc := by
  obtain ⟨⟨c, t, hc⟩, h2, h3⟩ := h
  exact ⟨⟨c, t, e.trans hc⟩, (World.cell?_of_block (w := w) (a := ⟨hb, 2, none⟩) e).trans h2, (World.cell?_of_block (w := w) (a := ⟨hb, 3, none⟩) e).trans h3⟩

/-- A step that keeps the blocks of cells that matter. -/
theorem Fil.keep {O : OthL} {n M br bc hb bo kr km : Nat} {P : Nat → Nat} {L1 L2 L1' L2' : PairsL} {w2 wr w' : World} (h : Fil O n M br bc hb bo kr km P L1 L2 w2 wr) (ht : T2 M br bc L1' L2' w')
    (hk : ∀ b, CellB wr b → (b = hb ∨ b = bo ∨ ∃ i, i < kr ∧ b = P i) → w'.heap[b]? = wr.heap[b]?) (hbe : Below M wr w') {km' : Nat}
    (m1 : ∀ q, q ∈ L1' ↔ ∃ i, i < km' ∧ q = (rN O i, P i)) (m2 : ∀ q, q ∈ L2' ↔ ∃ i, i < km' ∧ ∃ v, v < (cN O i).length ∧ q = (nm (cN O i) v, P i)) : Fil O n M br bc hb bo kr km' P L1' L2' w2 w' := by
  refine ⟨ht, h.hub.keep (hk hb h.hub.blk (.inl rfl)), h.row.of_block (hk bo (cellB_of_row h.row) (.inr (.inl rfl))), fun i hi => ?_, h.inj, m1, m2, h.bel.trans hbe, h.lo⟩
  obtain ⟨⟨c, t, hc⟩, h2, h3⟩ := h.wat i hi
  have e := hk (P i) ⟨c, t, hc⟩ (.inr (.inr ⟨i, hi, rfl⟩))
  exact ⟨⟨c, t, e.trans hc⟩, (World.cell?_of_block (w := wr) (a := ⟨P i, 3, none⟩) e).trans h2, h3⟩
theorem Fil.alloc {O : OthL} {n M br bc hb bo kr km : Nat} {P : Nat → Nat} {L1 L2 : PairsL} {w2 wr : World} (h : Fil O n M br bc hb bo kr km P L1 L2 w2 wr) (o : Obj) : Fil O n M br bc hb bo kr km P L1 L2 w2 (wr.alloc o) :=
  h.keep (h.t2.alloc o) (fun b hb _ => Below.heap_alloc _ _ _ hb.lt) ((Below.refl _ _).alloc h.t2.hM _) h.m1 h.m2
theorem Fil.drewN {O : OthL} {n M br bc hb bo kr km : Nat} {P : Nat → Nat} {L1 L2 : PairsL} {w2 wr : World} (h : Fil O n M br bc hb bo kr km P L1 L2 w2 wr) (q : Nat) : Fil O n M br bc hb bo kr km P L1 L2 w2 (wr.drewN q) :=
  h.keep (h.t2.drewN q) (fun b hb _ => rfl) ⟨rfl, rfl, rfl, Nat.le_refl _, fun _ _ => rfl⟩ h.m1 h.m2
theorem Fil.drew {O : OthL} {n M br bc hb bo kr km : Nat} {P : Nat → Nat} {L1 L2 : PairsL} {w2 wr : World} (h : Fil O n M br bc hb bo kr km P L1 L2 w2 wr) : Fil O n M br bc hb bo kr km P L1 L2 w2 wr.drew :=
  h.keep h.t2.drew (fun b hb _ => rfl) ⟨rfl, rfl, rfl, Nat.le_refl _, fun _ _ => rfl⟩ h.m1 h.m2
theorem Fil.setCell {O : OthL} {n M br bc hb bo kr km : Nat} {P : Nat → Nat} {L1 L2 : PairsL} {w2 wr : World} (h : Fil O n M br bc hb bo kr km P L1 L2 w2 wr) {b o : Nat} (hc : CellB wr b) (h1 : b ≠ hb) (h2 : b ≠ bo) (h3 : ∀ i, i < kr → b ≠ P i) (hM : M ≤ b) (v : Value) : Fil O n M br bc hb bo kr km P L1 L2 w2 (wr.setCell ⟨b, o, none⟩ v) :=
  h.keep (h.t2.setCell hc v) (fun x hx hx2 => by
    refine Below.heap_setCell _ _ _ _ (fun e => ?_)
    have e : x = b := e
    rcases hx2 with hx2 | hx2 | ⟨i, hi, hx2⟩
    · exact h1 (e ▸ hx2)
    · exact h2 (e ▸ hx2)
    · exact h3 i hi (e ▸ hx2)) ((Below.refl _ _).setCell hM _) h.m1 h.m2

theorem fil_start {O : OthL} {n : Nat} {w2 : World} (P : Nat → Nat) (v0 v1 : Value) :
    Fil O n w2.heap.size w2.heap.size (w2.heap.size + 1) (w2.heap.size + 1 + 1) (w2.heap.size + 1 + 1 + 1) 0 0 P [] [] w2
      ((((w2.alloc (.map #[] 0)).alloc (.map #[] 0)).alloc (.cells #[v0, v1, .map (some w2.heap.size), .map (some (w2.heap.size + 1))] 69)).alloc (.cells (madeCells #[.pointer none] n) 38)) := by
  have e1 : (w2.alloc (.map #[] 0)).heap.size = w2.heap.size + 1 := by simp
  have e2 : ((w2.alloc (.map #[] 0)).alloc (.map #[] 0)).heap.size = w2.heap.size + 1 + 1 := by simp
  have e3 : (((w2.alloc (.map #[] 0)).alloc (.map #[] 0)).alloc (.cells #[v0, v1, .map (some w2.heap.size), .map (some (w2.heap.size + 1))] 69)).heap.size = w2.heap.size + 1 + 1 + 1 := by simp
  have i1 := Idx.made (base := w2.heap.size) w2 (Nat.le_refl _)
  have i2 := Idx.made (base := w2.heap.size) (w2.alloc (.map #[] 0)) (by rw [e1]; omega)
  rw [e1] at i2
  have f := Frm.alloc (w2.alloc (.map #[] 0)) (.map #[] 0) (fun _ => False)
  have t : T2 w2.heap.size w2.heap.size (w2.heap.size + 1) [] [] ((w2.alloc (.map #[] 0)).alloc (.map #[] 0)) :=
    ⟨_, _, ⟨i1.frm f (fun _ _ h => h) (fun q hq => by cases hq), i2, (by
      rintro x (h | ⟨s, h⟩) (h2 | ⟨s2, h2⟩)
      · omega
      · cases h2
      · cases h
      · cases h), by rw [e2]; omega⟩⟩
  have hcell : CellB (((w2.alloc (.map #[] 0)).alloc (.map #[] 0)).alloc (.cells #[v0, v1, .map (some w2.heap.size), .map (some (w2.heap.size + 1))] 69)) (w2.heap.size + 1 + 1) := ⟨_, _, by rw [← e2]; exact (MapKept.heap_alloc _ _).1⟩
  have hh : Hub (((w2.alloc (.map #[] 0)).alloc (.map #[] 0)).alloc (.cells #[v0, v1, .map (some w2.heap.size), .map (some (w2.heap.size + 1))] 69)) (w2.heap.size + 1 + 1) w2.heap.size (w2.heap.size + 1) := by
    have hb := (MapKept.heap_alloc ((w2.alloc (.map #[] 0)).alloc (.map #[] 0)) (.cells #[v0, v1, .map (some w2.heap.size), .map (some (w2.heap.size + 1))] 69)).1
    rw [e2] at hb
    exact ⟨hcell, cell_of_blk hb rfl, cell_of_blk hb rfl⟩
  have hrow := World.rowIs_made (((w2.alloc (.map #[] 0)).alloc (.map #[] 0)).alloc (.cells #[v0, v1, .map (some w2.heap.size), .map (some (w2.heap.size + 1))] 69)) (.pointer none) n 38
  rw [e3] at hrow
  refine ⟨(t.alloc _).alloc _, hh.keep (Below.heap_alloc _ _ _ (by rw [e3]; omega)), hrow.congr (fun i hi => by simp [owF]), (fun i hi => absurd hi (Nat.not_lt_zero _)), (fun i j hi => absurd hi (Nat.not_lt_zero _)), ?_, ?_,
    ((((Below.refl _ _).alloc (Nat.le_refl _) _).alloc (by rw [e1]; omega) _).alloc (by rw [e2]; omega) _).alloc (by rw [e3]; omega) _, by omega, by omega⟩
  · intro q
    exact ⟨(fun h => by cases h), (fun ⟨i, hi, _⟩ => absurd hi (Nat.not_lt_zero _))⟩
  · intro q
    exact ⟨(fun h => by cases h), (fun ⟨i, hi, _⟩ => absurd hi (Nat.not_lt_zero _))⟩

def updP (P : Nat → Nat) (k p : Nat) : Nat → Nat := fun i => if i = k then p else P i

/-- A new watch, and its pointer in the row. -/
theorem fil_new {O : OthL} {n M br bc hb bo k : Nat} {P : Nat → Nat} {L1 L2 : PairsL} {w2 wr : World} (h : Fil O n M br bc hb bo k k P L1 L2 w2 wr) (hk : k < n) (r : Str) (a : Option Addr) (l c : Nat) :
    Fil O n M br bc hb bo (k + 1) k (updP P k wr.heap.size) L1 L2 w2 ((wr.alloc (.cells (watchCells r a l c false) 73)).setCell ⟨bo, k, none⟩ (ptrV wr.heap.size)) := by
  have ha := h.alloc (.cells (watchCells r a l c false) 73)
  have hbo := h.row.lt
  have hlo := h.lo
  have hnew := (MapKept.heap_alloc wr (.cells (watchCells r a l c false) 73)).1
  have hs : ∀ x, x ≠ bo → ((wr.alloc (.cells (watchCells r a l c false) 73)).setCell ⟨bo, k, none⟩ (ptrV wr.heap.size)).heap[x]? = (wr.alloc (.cells (watchCells r a l c false) 73)).heap[x]? := fun x hx => Below.heap_setCell _ _ _ _ hx
  have hP : ∀ i, i < k → updP P k wr.heap.size i = P i := fun i hi => by unfold updP; rw [if_neg (by omega)]
  have hPk : updP P k wr.heap.size k = wr.heap.size := by unfold updP; rw [if_pos rfl]
  refine ⟨ha.t2.setCell (cellB_of_row ha.row) _, ha.hub.keep (hs hb (by omega)), ?_, ?_, ?_, ?_, ?_, ha.bel.setCell (show M ≤ bo by omega) _, h.lo⟩
  · refine (ha.row.set k _).congr (fun i hi => ?_)
    unfold owF
    by_cases e : i = k
    · subst e
      rw [if_pos rfl, if_pos (by omega), hPk]
    · rw [if_neg e]
      by_cases c2 : i < k
      · rw [if_pos c2, if_pos (by omega), hP i c2]
      · rw [if_neg c2, if_neg (by omega)]
  · intro i hi
    by_cases e : i = k
    · subst e
      rw [hPk]
      have e1 := (hs wr.heap.size (by omega)).trans hnew
      exact ⟨⟨_, _, e1⟩, cell_of_blk e1 rfl, hbo⟩
    · rw [hP i (by omega)]
      obtain ⟨g1, g2, g3⟩ := ha.wat i (by omega)
      have e1 := hs (P i) (by omega)
      obtain ⟨c, t, hc⟩ := g1
      exact ⟨⟨c, t, e1.trans hc⟩, (World.cell?_of_block (a := ⟨P i, 3, none⟩) e1).trans g2, g3⟩
  · intro i j hi hj e
    by_cases c1 : i = k
    · by_cases c2 : j = k
      · omega
      · rw [c1, hPk, hP j (by omega)] at e
        have := (h.wat j (by omega)).1.lt
        omega
    · by_cases c2 : j = k
      · rw [c2, hPk, hP i (by omega)] at e
        have := (h.wat i (by omega)).1.lt
        omega
      · rw [hP i (by omega), hP j (by omega)] at e
        exact h.inj i j (by omega) (by omega) e
  · intro q
    rw [h.m1]
    constructor
    · rintro ⟨i, hi, e⟩; exact ⟨i, hi, by rw [hP i hi]; exact e⟩
    · rintro ⟨i, hi, e⟩; exact ⟨i, hi, by rw [hP i hi] at e; exact e⟩
  · intro q
    rw [h.m2]
    constructor
    · rintro ⟨i, hi, v, hv, e⟩; exact ⟨i, hi, v, hv, by rw [hP i hi]; exact e⟩
    · rintro ⟨i, hi, v, hv, e⟩; exact ⟨i, hi, v, hv, by rw [hP i hi] at e; exact e⟩

theorem fil_enter {O : OthL} {n M br bc hb bo k : Nat} {P : Nat → Nat} {L1 L2 : PairsL} {w2 wr w' : World} {e : Ending} (h : Fil O n M br bc hb bo (k + 1) k P L1 L2 w2 wr) (hp : IPost M br bc (addP L1 (rN O k, P k)) (addAll L2 (cN O k) (P k) (cN O k).length) wr e w') :
    Fil O n M br bc hb bo (k + 1) (k + 1) P (addP L1 (rN O k, P k)) (addAll L2 (cN O k) (P k) (cN O k).length) w2 w' := by
  obtain ⟨_, ht, hk, hb'⟩ := hp
  refine h.keep ht (fun b hb _ => hk b hb) hb' ?_ ?_
  · intro q
    rw [mem_addP, h.m1]
    constructor
    · rintro (rfl | ⟨i, hi, e⟩)
      · exact ⟨k, by omega, rfl⟩
      · exact ⟨i, by omega, e⟩
    · rintro ⟨i, hi, e⟩
      by_cases c : i = k
      · subst c; exact .inl e
      · exact .inr ⟨i, by omega, e⟩
  · intro q
    rw [mem_addAll, h.m2]
    constructor
    · rintro (⟨i, hi, v, hv, e⟩ | ⟨v, hv, e⟩)
      · exact ⟨i, by omega, v, hv, e⟩
      · exact ⟨k, by omega, v, hv, e⟩
    · rintro ⟨i, hi, v, hv, e⟩
      by_cases c : i = k
      · subst c; exact .inr ⟨v, hv, e⟩
      · exact .inl ⟨i, by omega, v, hv, e⟩

/-- Behind the drop only the others are left. -/
structure Fin8 (O : OthL) (n M br bc hb bo pw : Nat) (rd : Str) (ch : List Str) (m : Nat) (P : Nat → Nat) (L1 L2 : PairsL) (w2 wr : World) : Prop where
  fil : Fil O n M br bc hb bo n n P L1 L2 w2 wr
  pwc : CellB wr pw
  mark : wr.cell? ⟨pw, 3, none⟩ = some (.bool true)
  out1 : (rd, pw) ∉ L1
  out2 : ∀ v, v < m → (nm ch v, pw) ∉ L2

theorem fin_of {O : OthL} {n M br bc hb bo pw : Nat} {rd : Str} {ch : List Str} {m : Nat} {P : Nat → Nat} {L1 L2 L1a L2a : PairsL} {w2 W W6 W7 : World} {e : Ending} (h : Fil O n M br bc hb bo n n P L1 L2 w2 W) (hpw : ∀ i, i < n → P i ≠ pw) (hbw : bo < pw)
    (hd : DropPost M br bc pw (remP L1a (rd, pw)) (remAll L2a ch pw m) W6 e W7) (h1 : ∀ q, q ∈ L1a → q ∈ L1 ∨ q = (rd, pw)) (h1' : ∀ q, q ∈ L1 → q ∈ L1a) (h2 : ∀ q, q ∈ L2a → q ∈ L2 ∨ ∃ i, i < m ∧ q = (nm ch i, pw)) (h2' : ∀ q, q ∈ L2 → q ∈ L2a)
    (hk : KeepC W W6) (hb6 : Below M W W6) : Fin8 O n M br bc hb bo pw rd ch m P (remP L1a (rd, pw)) (remAll L2a ch pw m) w2 W7 := by
  obtain ⟨_, ht, hm, hc, hkd, hbd⟩ := hd
  have hlo := h.lo
  have n1 : ∀ q, q ∈ L1 → q ≠ (rd, pw) := fun q hq e => by
    obtain ⟨i, hi, e2⟩ := (h.m1 q).1 hq
    rw [e] at e2
    exact hpw i hi (congrArg Prod.snd e2).symm
  have n2 : ∀ q, q ∈ L2 → ∀ v, q ≠ (nm ch v, pw) := fun q hq v e => by
    obtain ⟨i, hi, v', hv', e2⟩ := (h.m2 q).1 hq
    rw [e] at e2
    exact hpw i hi (congrArg Prod.snd e2).symm
  refine ⟨h.keep ht (fun b hb hx => ?_) (hb6.trans hbd) (fun q => ?_) (fun q => ?_), hc, hm, fun c => (mem_remP.1 c).2 rfl, fun v hv c => (mem_remAll.1 c).2 v hv rfl⟩
  · have hne : b ≠ pw := by
      rcases hx with rfl | rfl | ⟨i, hi, rfl⟩
      · omega
      · omega
      · exact hpw i hi
    exact (hkd b (hk.cellB hb) hne).trans (hk b hb)
  · rw [mem_remP, ← h.m1]
    constructor
    · rintro ⟨a, b⟩
      rcases h1 q a with a | a
      · exact a
      · exact absurd a b
    · intro a
      exact ⟨h1' q a, n1 q a⟩
  · rw [mem_remAll, ← h.m2]
    constructor
    · rintro ⟨a, b⟩
      rcases h2 q a with a | ⟨i, hi, a⟩
      · exact a
      · exact absurd a (b i hi)
    · intro a
      exact ⟨h2' q a, fun i _ => n2 q a i⟩
theorem Fin8.alloc {O : OthL} {n M br bc hb bo pw : Nat} {rd : Str} {ch : List Str} {m : Nat} {P : Nat → Nat} {L1 L2 : PairsL} {w2 wr : World} (h : Fin8 O n M br bc hb bo pw rd ch m P L1 L2 w2 wr) (o : Obj) : Fin8 O n M br bc hb bo pw rd ch m P L1 L2 w2 (wr.alloc o) := by
  have e : (wr.alloc o).heap[pw]? = wr.heap[pw]? := Below.heap_alloc _ _ _ h.pwc.lt
  obtain ⟨c, t, hc⟩ := h.pwc
  exact ⟨h.fil.alloc o, ⟨c, t, e.trans hc⟩, (World.cell?_of_block (a := ⟨pw, 3, none⟩) e).trans h.mark, h.out1, h.out2⟩
end Go.Proofs.Qxb6608970aMods
