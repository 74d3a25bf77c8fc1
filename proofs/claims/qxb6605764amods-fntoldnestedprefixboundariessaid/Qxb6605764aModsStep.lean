import Derived.Test.Qxb6605764aModsLine
namespace Go.Proofs.Qxb6605764aMods
open Go.RowKit
set_option linter.unusedVariables false

/-- A step of the walk as it lies in memory: where it leads, no closing told before it; the levels of the boundary that ends there: none, or those of its node. -/
def StepAt (w : World) (b o : Nat) (p : Int) (L : List Int) : Prop :=
  w.cell? ⟨b, o + 1, none⟩ = some (.int .i32 p) ∧ w.cell? ⟨b, o + 4, none⟩ = some (.int .i64 (-1)) ∧
  ((w.cell? ⟨b, o + 2, none⟩ = some (.pointer none) ∧ L = []) ∨
   ∃ (nb : Nat) (la : Option Addr) (ll lc : Nat) (va : Option Addr) (vc : Nat), w.cell? ⟨b, o + 2, none⟩ = some (.pointer (some ⟨nb, 0, none⟩)) ∧ w.cell? ⟨b, o + 3, none⟩ = some (.int .i64 ll) ∧
     w.cell? ⟨nb, 0, none⟩ = some (.slice la ll lc) ∧ w.cell? ⟨nb, 2, none⟩ = some (.slice va L.length vc) ∧ Row .i64 w va L)

theorem StepAt.drewN {w : World} {b o : Nat} {p : Int} {L : List Int} (h : StepAt w b o p L) (n : Nat) : StepAt (w.drewN n) b o p L := h

def EndsPost (L : List Int) (w : World) (e : Ending) (w' : World) : Prop := e = .returned (.bool (!L.isEmpty)) ∧ ∃ n, w' = w.drewN n

set_option maxHeartbeats 1000000 in
theorem ends18 (b o : Nat) (p : Int) (L : List Int) (w : World) (hst : Hid (StepAt w b o p L)) :
    Calls Trym.prog 18 #[.pointer (some ⟨b, o, none⟩)] w (EndsPost L w) := by
  obtain ⟨_, _, hcase⟩ := hst.out
  rcases hcase with ⟨c2, hL⟩ | ⟨nb, la, ll, lc, va, vc, c2, c3, d0, d2, _⟩
  · subst hL
    clear hst
    go_enter Trym.func18, Trym.ntmps18
    go_wp2
    go_quiet (fail)
    go_wp2
    go_ret
    exact ⟨rfl, _, rfl⟩
  · cases L with
    | nil =>
      clear hst
      simp only [List.length_nil] at d2
      go_enter Trym.func18, Trym.ntmps18
      go_wp2
      go_quiet (fail)
      go_wp2
      go_ret
      exact ⟨rfl, _, rfl⟩
    | cons x L =>
      have hp : 0 < (x :: L).length := by simp
      have HE : Hid ((!(x :: L).isEmpty) = true) := rfl
      generalize hx : x :: L = l at *
      generalize l.length = n at *
      clear hx hst
      go_enter Trym.func18, Trym.ntmps18
      go_wp2
      go_quiet (fail)
      go_wp2
      go_ret
      exact ⟨by rw [HE.out]; rfl, _, rfl⟩

def LevelPost (L : List Int) (t : Int) (w : World) (e : Ending) (w' : World) : Prop :=
  e = .returned (.tuple #[.int .i64 ((lvl L t).getD 0), .bool (lvl L t).isSome]) ∧ ∃ n, w' = w.drewN n

set_option maxHeartbeats 1000000 in
theorem level23 (b o : Nat) (p : Int) (L : List Int) (t : Int) (w : World) (hst : Hid (StepAt w b o p L)) (hs : Hid (Sorted L)) (hm : L.length ≤ 1048576) :
    Calls Trym.prog 23 #[.pointer (some ⟨b, o, none⟩), .int .i64 t] w (LevelPost L t w) := by
  cases L with
  | nil =>
    go_enter Trym.func23, Trym.ntmps23
    go_wp2_with fail
    refine (ends18 b o p [] w hst).mono ?_
    rintro e w' ⟨rfl, n, rfl⟩
    simp only [List.isEmpty_nil, Bool.not_true]
    go_wp2_with fail
    go_ret2
    exact ⟨rfl, _, rfl⟩
  | cons x L =>
    obtain ⟨_, _, hcase⟩ := hst.out
    rcases hcase with ⟨_, hL⟩ | ⟨nb, la, ll, lc, va, vc, c2, c3, d0, d2, hrow⟩
    · cases hL
    rcases hrow with hr | ⟨g, go, rfl, hc⟩
    · cases hr
    have HE : Hid ((!(x :: L).isEmpty) = true) := rfl
    generalize hx : x :: L = l at *
    have HC : Hid (∀ i, i < l.length → w.cell? ⟨g, go + i, none⟩ = some (.int .i64 (l.getD i 0))) := hc
    clear hx hc
    generalize hn : l.length = n at *
    have HN : Hid (l.length = n) := hn
    clear hn
    go_enter Trym.func23, Trym.ntmps23
    go_wp2_with fail
    refine (ends18 b o p l w hst).mono ?_
    rintro e w' ⟨rfl, n1, rfl⟩
    rw [HE.out]
    go_wp2_with fail
    obtain ⟨n', hn'⟩ : ∃ n', n' = n := ⟨_, rfl⟩
    have SR := search25_row g go vc l t (w.drewN n1) (by rw [HN.out]; exact hm) hs (by rw [HN.out]; exact HC.out)
    rw [HN.out] at SR
    clear hn'
    refine SR.mono ?_
    clear SR
    rintro e w' ⟨i, q, rfl, hF, rfl⟩
    have HF : Hid (Found l t i) := hF
    have hin : i ≤ n := by have := hF.1; rw [HN.out] at this; exact this
    clear hF
    by_cases hlt : i < n
    · have HV : Hid (lvl l t = some (l.getD i 0)) := by
        show lvl l t = _
        rw [lvl_found HF.out]
        have : i < l.length := by rw [HN.out]; exact hlt
        simp [this]
      have hcx : w.cell? ⟨g, go + i, none⟩ = some (.int .i64 (l.getD i 0)) := HC.out i hlt
      generalize l.getD i 0 = y at *
      go_wp2_with fail
      go_ret2
      exact ⟨by rw [HV.out]; rfl, _, rfl⟩
    · obtain rfl : i = n := by omega
      have HV : Hid (lvl l t = none) := by
        show lvl l t = _
        rw [lvl_found HF.out]
        simp [HN.out]
      go_wp2_with fail
      go_ret2
      exact ⟨by rw [HV.out]; rfl, _, rfl⟩

/-- What 'closes' tells: the level, and that there is one and two dashes follow. -/
def ClosesPost (L : List Int) (t : Int) (ln : List Int) (p : Int) (w : World) (e : Ending) (w' : World) : Prop :=
  e = .returned (.tuple #[.int .i64 ((lvl L t).getD 0), .bool ((lvl L t).isSome && dashB ln p)]) ∧ ∃ n, w' = w.drewN n

set_option maxHeartbeats 1000000 in
theorem closes19 (b o : Nat) (p : Int) (L : List Int) (t : Int) (lb g cap : Nat) (ln : List Int) (w : World) (hst : Hid (StepAt w b o p L)) (hs : Hid (Sorted L)) (hm : L.length ≤ 1048576)
    (hl : Hid (LineAt w lb g cap ln)) (h1 : 0 ≤ p) (h2 : p ≤ 2097152) (hm2 : ln.length ≤ 2097152) :
    Calls Trym.prog 19 #[.pointer (some ⟨b, o, none⟩), .pointer (some ⟨lb, 0, none⟩), .int .i64 t] w (ClosesPost L t ln p w) := by
  have c1 : w.cell? ⟨b, o + 1, none⟩ = some (.int .i32 p) := hst.out.1
  cases hv : lvl L t with
  | none =>
    have HV : Hid (lvl L t = none) := hv
    clear hv
    go_enter Trym.func19, Trym.ntmps19
    go_wp2_with fail
    refine (level23 b o p L t w hst hs hm).mono ?_
    rintro e w' ⟨rfl, n, rfl⟩
    rw [HV.out]
    simp only [Option.getD_none, Option.isSome_none]
    go_wp2_with fail
    go_ret2
    exact ⟨by rw [HV.out]; rfl, _, rfl⟩
  | some y =>
    have HV : Hid (lvl L t = some y) := hv
    clear hv
    go_enter Trym.func19, Trym.ntmps19
    go_wp2_with fail
    refine (level23 b o p L t w hst hs hm).mono ?_
    rintro e w' ⟨rfl, n, rfl⟩
    rw [HV.out]
    simp only [Option.getD_some, Option.isSome_some]
    go_wp2_with fail
    refine (dash24 lb g cap ln p _ (by exact hl.out.drewN n) h1 h2 hm2).mono ?_
    rintro e w' ⟨rfl, rfl⟩
    go_wp2_with fail
    go_ret2
    exact ⟨by rw [HV.out]; rfl, _, rfl⟩
end Go.Proofs.Qxb6605764aMods
