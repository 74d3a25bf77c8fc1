import Derived.Test.Qxb6608970aModsPlainB
namespace Go.Proofs.Qxb6608970aMods
open Go.RowKit
set_option linter.unusedVariables false
set_option maxRecDepth 100000

def flF (A : EntL) (p : Nat) : Nat → Value := fun j => if j < p then .string (eN A j) else .string ByteArray.empty
def onF (A : EntL) (p : Nat) : Nat → Value := fun j => if j < p then .int .i64 (eI A j) else .int .i64 0

/-- The two rows of the flattened channels: the first p are in. -/
structure Fla (O : OthL) (n M br bc hb bo bf bw p : Nat) (P : Nat → Nat) (L1 L2 : PairsL) (w2 wr : World) : Prop where
  fil : Fil O n M br bc hb bo n n P L1 L2 w2 wr
  r1 : wr.rowIs bf 9 (offs O n) (flF (fl O n) p)
  r2 : wr.rowIs bw 3 (offs O n) (onF (fl O n) p)
  far : bo < bf ∧ bf < bw ∧ ∀ i, i < n → P i < bf

theorem fla_start {O : OthL} {n M br bc hb bo : Nat} {P : Nat → Nat} {L1 L2 : PairsL} {w2 wr : World} (h : Fil O n M br bc hb bo n n P L1 L2 w2 wr) :
    Fla O n M br bc hb bo wr.heap.size (wr.heap.size + 1) 0 P L1 L2 w2 ((wr.alloc (.cells (madeCells #[.string ByteArray.empty] (offs O n)) 9)).alloc (.cells (madeCells #[.int .i64 0] (offs O n)) 3)) := by
  have e1 : (wr.alloc (.cells (madeCells #[.string ByteArray.empty] (offs O n)) 9)).heap.size = wr.heap.size + 1 := by simp
  have r2 := World.rowIs_made (wr.alloc (.cells (madeCells #[.string ByteArray.empty] (offs O n)) 9)) (.int .i64 0) (offs O n) 3
  rw [e1] at r2
  exact ⟨(h.alloc _).alloc _, ((World.rowIs_made wr (.string ByteArray.empty) (offs O n) 9).alloc _).congr (fun i hi => by simp [flF]), r2.congr (fun i hi => by simp [onF]), h.row.lt, by omega, fun i hi => (h.wat i hi).1.lt⟩

theorem fla_step {O : OthL} {n M br bc hb bo bf bw i v : Nat} {P : Nat → Nat} {L1 L2 : PairsL} {w2 wr : World} (h : Fla O n M br bc hb bo bf bw (offs O i + v) P L1 L2 w2 wr) (hi : i < n) (hv : v < (cN O i).length) :
    Fla O n M br bc hb bo bf bw (offs O i + v + 1) P L1 L2 w2 ((wr.setCell ⟨bf, offs O i + v, none⟩ (.string (nm (cN O i) v))).setCell ⟨bw, offs O i + v, none⟩ (.int .i64 (i : Int))) := by
  obtain ⟨f1, f2, f3⟩ := h.far
  have hlo := h.fil.lo
  obtain ⟨e1, e2⟩ := fl_at O hi hv
  have c1 := cellB_of_row h.r1
  have s1 := h.fil.setCell (o := offs O i + v) c1 (by omega) (by omega) (fun j hj => by have := f3 j hj; omega) (by omega) (.string (nm (cN O i) v))
  have q2 := h.r2.setOther (a := ⟨bf, offs O i + v, none⟩) (show bw ≠ bf by omega) (.string (nm (cN O i) v))
  have s2 := s1.setCell (o := offs O i + v) (cellB_of_row q2) (by omega) (by omega) (fun j hj => by have := f3 j hj; omega) (by omega) (.int .i64 (i : Int))
  refine ⟨s2, ?_, ?_, h.far⟩
  · refine ((h.r1.set (offs O i + v) _).setOther (show bf ≠ bw by omega) _).congr (fun j hj => ?_)
    unfold flF
    by_cases c : j = offs O i + v
    · subst c
      rw [if_pos rfl, if_pos (by omega), e1]
    · rw [if_neg c]
      have : j < offs O i + v ↔ j < offs O i + v + 1 := by omega
      simp only [this]
  · refine (q2.set (offs O i + v) _).congr (fun j hj => ?_)
    unfold onF
    by_cases c : j = offs O i + v
    · subst c
      rw [if_pos rfl, if_pos (by omega), e2]
    · rw [if_neg c]
      have : j < offs O i + v ↔ j < offs O i + v + 1 := by omega
      simp only [this]
theorem Fla.alloc {O : OthL} {n M br bc hb bo bf bw p : Nat} {P : Nat → Nat} {L1 L2 : PairsL} {w2 wr : World} (h : Fla O n M br bc hb bo bf bw p P L1 L2 w2 wr) (o : Obj) : Fla O n M br bc hb bo bf bw p P L1 L2 w2 (wr.alloc o) := ⟨h.fil.alloc o, h.r1.alloc o, h.r2.alloc o, h.far⟩
theorem Fla.drew {O : OthL} {n M br bc hb bo bf bw p : Nat} {P : Nat → Nat} {L1 L2 : PairsL} {w2 wr : World} (h : Fla O n M br bc hb bo bf bw p P L1 L2 w2 wr) : Fla O n M br bc hb bo bf bw p P L1 L2 w2 wr.drew := ⟨h.fil.drew, h.r1, h.r2, h.far⟩
theorem Fla.drewN {O : OthL} {n M br bc hb bo bf bw p : Nat} {P : Nat → Nat} {L1 L2 : PairsL} {w2 wr : World} (h : Fla O n M br bc hb bo bf bw p P L1 L2 w2 wr) (q : Nat) : Fla O n M br bc hb bo bf bw p P L1 L2 w2 (wr.drewN q) := ⟨h.fil.drewN q, h.r1, h.r2, h.far⟩
theorem Fla.at1 {O : OthL} {n M br bc hb bo bf bw j : Nat} {P : Nat → Nat} {L1 L2 : PairsL} {w2 wr : World} (h : Fla O n M br bc hb bo bf bw (offs O n) P L1 L2 w2 wr) (hj : j < offs O n) : wr.cell? ⟨bf, j, none⟩ = some (.string (eN (fl O n) j)) ∧ wr.cell? ⟨bw, j, none⟩ = some (.int .i64 (eI (fl O n) j)) := by
  have h1 := h.r1.cell hj
  have h2 := h.r2.cell hj
  unfold flF at h1
  unfold onF at h2
  rw [if_pos hj] at h1 h2
  exact ⟨h1, h2⟩
end Go.Proofs.Qxb6608970aMods
