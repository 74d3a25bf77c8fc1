import Derived.Test.Qxb6605764aModsClone
namespace Go.Proofs.Qxb6605764aMods
open Go.RowKit
set_option linter.unusedVariables false

/-- A line as it stands in a body: block lb holds the reader, block g the bytes. -/
structure LineAt (w : World) (lb g cap : Nat) (ln : List Int) : Prop where
  q : w.cell? ⟨lb, 0, none⟩ = some (.pointer none)
  raw : w.cell? ⟨lb, 4, none⟩ = some (.slice (some ⟨g, 0, none⟩) ln.length cap)
  row : ∀ i, i < ln.length → w.cell? ⟨g, i, none⟩ = some (.int .u8 (ln.getD i 0))

theorem LineAt.drewN {w : World} {lb g cap : Nat} {ln : List Int} (h : LineAt w lb g cap ln) (n : Nat) : LineAt (w.drewN n) lb g cap ln := ⟨h.q, h.raw, h.row⟩

/-- The byte at index p (from 1 on). -/
def byteOf (ln : List Int) (p : Int) : Int := ln.getD (p - 1).toNat 0

theorem at21 (lb g cap : Nat) (ln : List Int) (p : Int) (w : World) (hl : Hid (LineAt w lb g cap ln)) (h1 : 1 ≤ p) (h2 : p ≤ ln.length) (hm : ln.length ≤ 2097152) :
    Calls Trym.prog 21 #[.pointer (some ⟨lb, 0, none⟩), .int .i32 p] w fun e w' => e = .returned (.int .u8 (byteOf ln p)) ∧ w' = w := by
  have c0 := hl.out.q
  have c4 := hl.out.raw
  obtain ⟨k, rfl⟩ : ∃ k : Nat, p = k + 1 := ⟨(p - 1).toNat, by omega⟩
  have e1 : byteOf ln ((k : Int) + 1) = ln.getD k 0 := by unfold byteOf; congr 1; omega
  rw [e1]
  have cx := hl.out.row k (by omega)
  generalize ln.getD k 0 = x at *
  generalize ln.length = n at *
  clear e1 hl
  go_enter Trym.func21, Trym.ntmps21
  go_wp2
  go_ret
  exact ⟨rfl, rfl⟩

theorem prev22 (lb g cap : Nat) (ln : List Int) (p : Int) (w : World) (hl : Hid (LineAt w lb g cap ln)) (h1 : 1 ≤ p) (h2 : p ≤ 2097152) :
    Calls Trym.prog 22 #[.pointer (some ⟨lb, 0, none⟩), .int .i32 p] w fun e w' => e = .returned (.int .i32 (p - 1)) ∧ w' = w := by
  have c0 := hl.out.q
  go_enter Trym.func22, Trym.ntmps22
  go_wp2
  go_ret
  exact ⟨rfl, rfl⟩

theorem next26 (lb g cap : Nat) (ln : List Int) (p : Int) (w : World) (hl : Hid (LineAt w lb g cap ln)) (h1 : 0 ≤ p) (h2 : p ≤ 2097152) (hm : ln.length ≤ 2097152) :
    Calls Trym.prog 26 #[.pointer (some ⟨lb, 0, none⟩), .int .i32 p] w fun e w' => e = .returned (.int .i32 (if p < ln.length then p + 1 else 0)) ∧ w' = w := by
  have c0 := hl.out.q
  have c4 := hl.out.raw
  generalize ln.length = n at *
  clear hl
  by_cases h : p < n
  · rw [if_pos h]
    go_enter Trym.func26, Trym.ntmps26
    go_wp2
    go_ret
    exact ⟨rfl, rfl⟩
  · rw [if_neg h]
    go_enter Trym.func26, Trym.ntmps26
    go_wp2
    go_ret
    exact ⟨rfl, rfl⟩

/-- Do two dashes follow index p? -/
def dashB (ln : List Int) (p : Int) : Bool := decide (p + 2 ≤ ln.length) && byteOf ln (p + 1) == 45 && byteOf ln (p + 2) == 45

def DashPost (ln : List Int) (p : Int) (w : World) (e : Ending) (w' : World) : Prop := e = .returned (.bool (dashB ln p)) ∧ w' = w

set_option maxHeartbeats 400000 in
theorem dash24 (lb g cap : Nat) (ln : List Int) (p : Int) (w : World) (hl : Hid (LineAt w lb g cap ln)) (h1 : 0 ≤ p) (h2 : p ≤ 2097152) (hm : ln.length ≤ 2097152) :
    Calls Trym.prog 24 #[.pointer (some ⟨lb, 0, none⟩), .int .i32 p] w (DashPost ln p w) := by
  by_cases hp : p < ln.length
  · by_cases hb : byteOf ln (p + 1) = 45
    · by_cases hp2 : p + 1 < ln.length
      · have HD : Hid (dashB ln p = (byteOf ln (p + 2) == 45)) := by
          show dashB ln p = _
          unfold dashB
          simp [hb, show p + 2 ≤ (ln.length : Int) by omega]
        have HB : Hid (byteOf ln (p + 1) = 45) := hb
        have hz : (p + 2 != 0) = true := by rw [bne_iff_ne]; omega
        clear hb
        go_enter Trym.func24, Trym.ntmps24
        go_wp2_with fail
        refine (next26 lb g cap ln p _ hl h1 h2 hm).mono ?_
        rintro e w' ⟨rfl, rfl⟩
        rw [if_pos hp]
        go_wp2_with fail
        refine (at21 lb g cap ln (p + 1) _ hl (by omega) (by omega) hm).mono ?_
        rintro e w' ⟨rfl, rfl⟩
        rw [HB.out]
        go_wp2_with fail
        refine (next26 lb g cap ln (p + 1) _ hl (by omega) (by omega) hm).mono ?_
        rintro e w' ⟨rfl, rfl⟩
        rw [if_pos hp2, show p + 1 + 1 = p + 2 by omega]
        go_wp2_with fail
        refine (at21 lb g cap ln _ _ hl (by omega) (by omega) hm).mono ?_
        rintro e w' ⟨rfl, rfl⟩
        go_wp2_with fail
        go_ret
        refine ⟨?_, rfl⟩
        rw [HD.out]
        rfl
      · have HD : Hid (dashB ln p = false) := by
          show dashB ln p = _
          unfold dashB
          simp [show ¬ p + 2 ≤ (ln.length : Int) by omega]
        have HB : Hid (byteOf ln (p + 1) = 45) := hb
        clear hb
        go_enter Trym.func24, Trym.ntmps24
        go_wp2_with fail
        refine (next26 lb g cap ln p _ hl h1 h2 hm).mono ?_
        rintro e w' ⟨rfl, rfl⟩
        rw [if_pos hp]
        go_wp2_with fail
        refine (at21 lb g cap ln (p + 1) _ hl (by omega) (by omega) hm).mono ?_
        rintro e w' ⟨rfl, rfl⟩
        rw [HB.out]
        go_wp2_with fail
        refine (next26 lb g cap ln (p + 1) _ hl (by omega) (by omega) hm).mono ?_
        rintro e w' ⟨rfl, rfl⟩
        rw [if_neg (by omega)]
        go_wp2_with fail
        go_ret
        refine ⟨?_, rfl⟩
        rw [HD.out]
        rfl
    · have HD : Hid (dashB ln p = false) := by
        show dashB ln p = _
        unfold dashB
        simp [hb]
      have hb' : (byteOf ln (p + 1) != 45) = true := by simpa using hb
      go_enter Trym.func24, Trym.ntmps24
      go_wp2_with fail
      refine (next26 lb g cap ln p _ hl h1 h2 hm).mono ?_
      rintro e w' ⟨rfl, rfl⟩
      rw [if_pos hp]
      go_wp2_with fail
      refine (at21 lb g cap ln (p + 1) _ hl (by omega) (by omega) hm).mono ?_
      rintro e w' ⟨rfl, rfl⟩
      go_wp2_with fail
      go_ret
      refine ⟨?_, rfl⟩
      rw [HD.out]
      rfl
  · have HD : Hid (dashB ln p = false) := by
      show dashB ln p = _
      unfold dashB
      simp [show ¬ p + 2 ≤ (ln.length : Int) by omega]
    go_enter Trym.func24, Trym.ntmps24
    go_wp2_with fail
    refine (next26 lb g cap ln p _ hl h1 h2 hm).mono ?_
    rintro e w' ⟨rfl, rfl⟩
    rw [if_neg (by omega)]
    go_wp2_with fail
    go_ret
    refine ⟨?_, rfl⟩
    rw [HD.out]
    rfl
end Go.Proofs.Qxb6605764aMods
