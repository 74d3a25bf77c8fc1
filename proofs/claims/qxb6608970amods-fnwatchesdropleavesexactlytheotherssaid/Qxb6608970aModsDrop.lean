import Derived.Test.Qxb6608970aModsTwo
namespace Go.Proofs.Qxb6608970aMods
open Go.RowKit
set_option linter.unusedVariables false
set_option maxRecDepth 100000

set_option maxHeartbeats 1000000 in
theorem enter24 (M br bc : Nat) (L1 L2 : PairsL) (s : Str) (p : Nat) (a : Option Addr) (m c : Nat) (N : List Str) (w : World) (h : Hid (T2 M br bc L1 L2 w)) (hp : Hid (CellB w p)) (hs : Hid (Strs M w a m N)) (hm : m ≤ 1048576) :
    Calls Trym.prog 24 #[.map (some br), .map (some bc), .pointer (some ⟨p, 0, none⟩), .string s, .slice a m c] w (IPost M br bc (addP L1 (s, p)) (addAll L2 N p m) w) := by
  have HC : Hid (Calls Trym.prog 15 #[.map (some br), .string s, .pointer (some ⟨p, 0, none⟩)] w (IPost M br bc (addP L1 (s, p)) L2 w)) := addBr s p h.out hp.out
  go_enter Trym.func24, Trym.ntmps24
  go_wp2_with fail
  refine HC.out.mono ?_
  rintro e w1 ⟨rfl, ht, hk, hb⟩
  have HT : Hid (IPost M br bc (addP L1 (s, p)) L2 w (.returned (.tuple #[])) w1) := ⟨rfl, ht, hk, hb⟩
  clear ht hk hb HC h
  go_wp2_with fail
  go_loopw [10] (fun i wr => ∃ k : Nat, k ≤ m ∧ i = .int .i64 k ∧ IPost M br bc (addP L1 (s, p)) (addAll L2 N p k) w (.returned (.tuple #[])) wr) (fun i _ => m - (intOf i).toNat)
  case atStart => exact ⟨0, Nat.zero_le _, rfl, HT.out⟩
  case round =>
    clear HT w1
    obtain ⟨k, hk, rfl, hpost⟩ := hrel
    have HT : Hid (IPost M br bc (addP L1 (s, p)) (addAll L2 N p k) w (.returned (.tuple #[])) wr) := hpost
    clear hpost
    by_cases hlt : k < m
    · obtain ⟨b, o, rfl, hbl, R⟩ := hs.out.row (by omega)
      have hcx : wr.cell? ⟨b, o + k, none⟩ = some (.string (nm N k)) := by
        rw [HT.out.2.2.2.cell (p := ⟨b, o + k, none⟩) hbl]; exact R k hlt
      have HC : Hid (Calls Trym.prog 15 #[.map (some bc), .string (nm N k), .pointer (some ⟨p, 0, none⟩)] wr (IPost M br bc (addP L1 (s, p)) (addAll L2 N p (k + 1)) wr)) := addBc _ _ HT.out.2.1 (HT.out.2.2.1.cellB hp.out)
      have hz1 : (0 : Int) ≤ (k : Int) := by omega
      have hz2 : (k : Int) < (m : Int) := by omega
      generalize nm N k = x at *
      clear R hs
      go_wp2_with fail
      refine HC.out.mono ?_
      rintro e w1 ⟨rfl, ht, hkk, hb⟩
      have HT1 : Hid (IPost M br bc (addP L1 (s, p)) (addAll L2 N p (k + 1)) w (.returned (.tuple #[])) w1) := ⟨rfl, ht, HT.out.2.2.1.trans hkk, HT.out.2.2.2.trans hb⟩
      clear ht hkk hb HC HT hcx
      go_wp2_with fail
      go_roundw
      case rel => exact ⟨k + 1, by omega, by go_num, HT1.out⟩
      case measure => simp [intOf]; omega
    · obtain rfl : k = m := by omega
      clear hs
      go_wp2_with fail
      go_end0
      exact HT.out

/-- Behind a drop: the two indexes, the watch's mark, and every other block of cells. -/
def DropPost (M br bc p : Nat) (L1 L2 : PairsL) (w : World) (e : Ending) (w' : World) : Prop :=
  e = .returned (.tuple #[]) ∧ T2 M br bc L1 L2 w' ∧ w'.cell? ⟨p, 3, none⟩ = some (.bool true) ∧ CellB w' p ∧ (∀ b, CellB w b → b ≠ p → w'.heap[b]? = w.heap[b]?) ∧ Below M w w'

theorem drop_next {M br bc p : Nat} {L1 L2 L1' L2' : PairsL} {w w1 w2 : World} (h : DropPost M br bc p L1 L2 w (.returned (.tuple #[])) w1) {e : Ending} (k : IPost M br bc L1' L2' w1 e w2) (hw : CellB w p) : DropPost M br bc p L1' L2' w (.returned (.tuple #[])) w2 := by
  obtain ⟨_, h1, h2, h3, h4, h5⟩ := h
  obtain ⟨_, k1, k2, k3⟩ := k
  refine ⟨rfl, k1, (k2.cell h3).trans h2, k2.cellB h3, fun b hb hne => ?_, h5.trans k3⟩
  have e1 := h4 b hb hne
  have : CellB w1 b := by
    obtain ⟨c, t, hc⟩ := hb
    exact ⟨c, t, e1.trans hc⟩
  exact (k2 b this).trans e1

structure Watch (w : World) (p : Nat) (s : Str) (a : Option Addr) (m c : Nat) (q : Bool) : Prop where
  blk : CellB w p
  c0 : w.cell? ⟨p, 0, none⟩ = some (.string s)
  c1 : w.cell? ⟨p, 1, none⟩ = some (.slice a m c)
  c3 : w.cell? ⟨p, 3, none⟩ = some (.bool q)
  fz : ∀ o, w.frozen? ⟨p, o, none⟩ = false
structure Hub (w : World) (h br bc : Nat) : Prop where
  blk : CellB w h
  c2 : w.cell? ⟨h, 2, none⟩ = some (.map (some br))
  c3 : w.cell? ⟨h, 3, none⟩ = some (.map (some bc))

theorem drop_mark {M br bc p : Nat} {L1 L2 : PairsL} {w : World} (h : T2 M br bc L1 L2 w) (hM : M ≤ p) {s : Str} {a : Option Addr} {m c : Nat} {q : Bool} (hw : Watch w p s a m c q) : DropPost M br bc p L1 L2 w (.returned (.tuple #[])) (w.setCell ⟨p, 3, none⟩ (.bool true)) := by
  refine ⟨rfl, h.setCell hw.blk _, by simp [World.cell?_setCell_same, hw.c3], cellB_setCell hw.blk, fun b hb hne => Below.heap_setCell _ _ _ _ hne, (Below.refl _ _).setCell hM _⟩

set_option maxHeartbeats 2000000 in
theorem drop31 (M br bc hb p : Nat) (L1 L2 : PairsL) (s : Str) (a : Option Addr) (m c : Nat) (q : Bool) (N : List Str) (w : World) (h : Hid (T2 M br bc L1 L2 w)) (hw : Hid (Watch w p s a m c q)) (hh : Hid (Hub w hb br bc)) (hne : hb ≠ p) (hMp : Hid (M ≤ p)) (hs : Hid (Strs M w a m N)) (hm : m ≤ 1048576) :
    Calls Trym.prog 31 #[.pointer (some ⟨hb, 0, none⟩), .pointer (some ⟨p, 0, none⟩)] w (DropPost M br bc p (remP L1 (s, p)) (remAll L2 N p m) w) := by
  have w3 := hw.out.c3
  have f3 := hw.out.fz 3
  have HD0 : Hid (DropPost M br bc p L1 L2 w (.returned (.tuple #[])) (w.setCell ⟨p, 3, none⟩ (.bool true))) := drop_mark h.out hMp.out hw.out
  have hq1 : (w.setCell ⟨p, 3, none⟩ (.bool true)).cell? ⟨hb, 2, none⟩ = some (.map (some br)) := by rw [World.cell?_of_block (w := w) (a := ⟨hb, 2, none⟩) (Below.heap_setCell _ _ _ _ hne)]; exact hh.out.c2
  have hq2 : (w.setCell ⟨p, 3, none⟩ (.bool true)).cell? ⟨hb, 3, none⟩ = some (.map (some bc)) := by rw [World.cell?_of_block (w := w) (a := ⟨hb, 3, none⟩) (Below.heap_setCell _ _ _ _ hne)]; exact hh.out.c3
  have hq3 : (w.setCell ⟨p, 3, none⟩ (.bool true)).cell? ⟨p, 0, none⟩ = some (.string s) := by rw [World.cell?_setCell_other _ _ _ _ (by simp)]; exact hw.out.c0
  have hq4 : (w.setCell ⟨p, 3, none⟩ (.bool true)).cell? ⟨p, 1, none⟩ = some (.slice a m c) := by rw [World.cell?_setCell_other _ _ _ _ (by simp)]; exact hw.out.c1
  have HHB : Hid (CellB (w.setCell ⟨p, 3, none⟩ (.bool true)) hb) := cellB_setCell hh.out.blk
  have HPB : Hid (CellB w p) := hw.out.blk
  go_enter Trym.func31, Trym.ntmps31
  go_wp2_with fail
  generalize w.setCell ⟨p, 3, none⟩ (.bool true) = V at *
  have HC : Hid (Calls Trym.prog 33 #[.map (some br), .string s, .pointer (some ⟨p, 0, none⟩)] V.drew (fun e w' => IPost M br bc (remP L1 (s, p)) L2 V e w' ∧ w'.cell? ⟨hb, 2, none⟩ = some (.map (some br)) ∧ w'.cell? ⟨p, 0, none⟩ = some (.string s) ∧ w'.cell? ⟨p, 1, none⟩ = some (.slice a m c))) := by
    refine (remBr s p (w := V.drew) HD0.out.2.1.drew HD0.out.2.2.2.1).mono ?_
    rintro e w' ⟨rfl, h1, h2, h3⟩
    exact ⟨⟨rfl, h1, h2, ⟨h3.os, h3.tape, h3.output, h3.size, h3.block⟩⟩, (h2.cell (w := V.drew) HHB.out).trans hq1, (h2.cell (w := V.drew) HD0.out.2.2.2.1).trans hq3, (h2.cell (w := V.drew) HD0.out.2.2.2.1).trans hq4⟩
  go_region_held3 (fun w' => w'.cell? ⟨hb, 2, none⟩ = some (.map (some br)) ∧ w'.cell? ⟨p, 0, none⟩ = some (.string s)) (go_keep)
    (first | (go_at_call 33; refine HC.out.mono ?_; rintro e w1 ⟨⟨rfl, ht, hk, hbe⟩, hk1, hk2, hk3⟩))
  have HD1 : Hid (DropPost M br bc p (remP L1 (s, p)) L2 w (.returned (.tuple #[])) w1) := drop_next HD0.out ⟨rfl, ht, hk, hbe⟩ HPB.out
  have HHW : Hid (Hub w hb br bc) := hh
  clear ht hk hbe HD0 HC HHB hq1 hq2 hq3 hq4 hk1 hk2 w3 f3 h hw hh hMp
  go_wp2_with fail
  go_loopw [24] (fun i wr => ∃ k : Nat, k ≤ m ∧ i = .int .i64 k ∧ DropPost M br bc p (remP L1 (s, p)) (remAll L2 N p k) w (.returned (.tuple #[])) wr) (fun i _ => m - (intOf i).toNat)
  case atStart => exact ⟨0, Nat.zero_le _, rfl, HD1.out⟩
  case round =>
    clear HD1 hk3
    obtain ⟨k, hk, rfl, hpost⟩ := hrel
    have HT : Hid (DropPost M br bc p (remP L1 (s, p)) (remAll L2 N p k) w (.returned (.tuple #[])) wr) := hpost
    clear hpost
    by_cases hlt : k < m
    · obtain ⟨b, o, rfl, hbl, R⟩ := hs.out.row (by omega)
      have hcx : wr.cell? ⟨b, o + k, none⟩ = some (.string (nm N k)) := by
        rw [HT.out.2.2.2.2.2.cell (p := ⟨b, o + k, none⟩) hbl]; exact R k hlt
      have hcb : wr.cell? ⟨hb, 3, none⟩ = some (.map (some bc)) := by
        rw [World.cell?_of_block (w := w) (a := ⟨hb, 3, none⟩) (HT.out.2.2.2.2.1 hb HHW.out.blk hne)]; exact HHW.out.c3
      have HC : Hid (Calls Trym.prog 33 #[.map (some bc), .string (nm N k), .pointer (some ⟨p, 0, none⟩)] wr (IPost M br bc (remP L1 (s, p)) (remAll L2 N p (k + 1)) wr)) := remBc _ _ HT.out.2.1 HT.out.2.2.2.1
      have hz1 : (0 : Int) ≤ (k : Int) := by omega
      have hz2 : (k : Int) < (m : Int) := by omega
      generalize nm N k = x at *
      clear R hs
      go_wp2_with fail
      refine HC.out.mono ?_
      intro e w1 hpo
      have hee : e = .returned (.tuple #[]) := hpo.1
      have HT1 : Hid (DropPost M br bc p (remP L1 (s, p)) (remAll L2 N p (k + 1)) w (.returned (.tuple #[])) w1) := drop_next HT.out hpo HPB.out
      subst hee
      clear hpo HC HT hcx hcb
      go_wp2_with fail
      go_roundw
      case rel => exact ⟨k + 1, by omega, by go_num, HT1.out⟩
      case measure => simp [intOf]; omega
    · obtain rfl : k = m := by omega
      clear hs
      go_wp2_with fail
      go_end0
      exact HT.out

theorem drop25 (M br bc hb p : Nat) (L1 L2 : PairsL) (s : Str) (a : Option Addr) (m c : Nat) (q : Bool) (N : List Str) (w : World) (h : Hid (T2 M br bc L1 L2 w)) (hw : Hid (Watch w p s a m c q)) (hh : Hid (Hub w hb br bc)) (hne : hb ≠ p) (hMp : Hid (M ≤ p)) (hs : Hid (Strs M w a m N)) (hm : m ≤ 1048576) :
    Calls Trym.prog 25 #[.pointer (some ⟨hb, 0, none⟩), .pointer (some ⟨p, 0, none⟩)] w (DropPost M br bc p (remP L1 (s, p)) (remAll L2 N p m) w) := by
  have HC : Hid (Calls Trym.prog 31 #[.pointer (some ⟨hb, 0, none⟩), .pointer (some ⟨p, 0, none⟩)] w (DropPost M br bc p (remP L1 (s, p)) (remAll L2 N p m) w)) := drop31 M br bc hb p L1 L2 s a m c q N w h hw hh hne hMp hs hm
  go_enter Trym.func25, Trym.ntmps25
  go_wp2_with fail
  refine HC.out.mono ?_
  rintro e w' ⟨rfl, h⟩
  have H : Hid _ := h
  clear h
  go_wp2_with fail
  go_end0
  exact ⟨rfl, H.out⟩
end Go.Proofs.Qxb6608970aMods
