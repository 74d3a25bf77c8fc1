import Derived.Test.Qxb6605764aModsStep
namespace Go.Proofs.Qxb6605764aMods
open Go.RowKit
set_option linter.unusedVariables false

/-- A step: where it leads, and the levels of the boundary that ends there. -/
abbrev Stp := Int × List Int
def z0 : Stp := (0, [])

def upd1 (t : Int) (ln : List Int) (st : Int × Bool) (s : Stp) : Int × Bool :=
  match lvl s.2 t with
  | some l => if dashB ln s.1 && (decide (st.1 < 0) || decide (l < st.1)) then (l, true) else st
  | none => st
def upd2 (t : Int) (st : Int × Bool) (s : Stp) : Int × Bool :=
  match lvl s.2 t with
  | some l => if decide (st.1 < 0) || decide (l < st.1) then (l, false) else st
  | none => st
def p1 (t : Int) (ln : List Int) (S : List Stp) (k : Nat) (st : Int × Bool) : Int × Bool := (S.drop k).foldl (upd1 t ln) st
def p3 (t sh : Int) (S : List Stp) : Nat → Int × Bool → Int × Bool
  | 0, st => st
  | k + 1, st => if sh ≤ (S.getD k z0).1 then p3 t sh S k (upd2 t st (S.getD k z0)) else st

theorem p1_step {t : Int} {ln : List Int} {S : List Stp} {k : Nat} {st : Int × Bool} (h : k < S.length) : p1 t ln S k st = p1 t ln S (k + 1) (upd1 t ln st (S.getD k z0)) := by
  unfold p1
  rw [List.drop_eq_getElem_cons h, List.foldl_cons, show S.getD k z0 = S[k] by simp [h]]
theorem p1_done {t : Int} {ln : List Int} {S : List Stp} {k : Nat} {st : Int × Bool} (h : S.length ≤ k) : p1 t ln S k st = st := by
  unfold p1
  rw [List.drop_eq_nil_of_le h]
  rfl

structure StepsAt (w : World) (b : Nat) (S : List Stp) : Prop where
  ofs : ∀ k, k < S.length → StepAt w b (k * 5) (S.getD k z0).1 (S.getD k z0).2
  sorted : ∀ k, k < S.length → Sorted (S.getD k z0).2
  short : ∀ k, k < S.length → (S.getD k z0).2.length ≤ 1048576
  at0 : ∀ k, k < S.length → 0 ≤ (S.getD k z0).1 ∧ (S.getD k z0).1 ≤ 2097152

/-- The last byte that is no blank. -/
structure Shown (ln : List Int) (sh : Int) : Prop where
  lo : 1 ≤ sh
  hi : sh ≤ ln.length
  no : blankB (byteOf ln sh) = false
  yes : ∀ q, sh < q → q ≤ ln.length → blankB (byteOf ln q) = true

def ToldPost (r : Int × Bool) (w : World) (e : Ending) (w' : World) : Prop :=
  e = .returned (.tuple #[.int .i64 r.1, .bool r.2]) ∧ ∃ n, w' = w.drewN n

set_option maxHeartbeats 2000000 in
theorem told17 (b c : Nat) (S : List Stp) (t : Int) (lb g cap : Nat) (ln : List Int) (sh : Int) (w : World) (hS : Hid (StepsAt w b S)) (h2 : 2 ≤ S.length) (h9 : S.length ≤ 100)
    (hl : Hid (LineAt w lb g cap ln)) (hsh : Hid (Shown ln sh)) (hm2 : ln.length ≤ 2097152) :
    Calls Trym.prog 17 #[.slice (some ⟨b, 0, none⟩) S.length c, .pointer (some ⟨lb, 0, none⟩), .int .i32 ln.length, .int .i64 t] w
      (ToldPost (p3 t sh S S.length (p1 t ln S (S.length - 2) (-1, false))) w) := by
  obtain ⟨R, hR⟩ : ∃ R, R = p3 t sh S S.length (p1 t ln S (S.length - 2) (-1, false)) := ⟨_, rfl⟩
  rw [← hR]
  have HR : Hid (p3 t sh S S.length (p1 t ln S (S.length - 2) (-1, false)) = R) := hR.symm
  clear hR
  obtain ⟨n, hn⟩ : ∃ n, n = S.length := ⟨_, rfl⟩
  have cl : w.cell? ⟨b, (n - 1) * 5 + 4, none⟩ = some (.int .i64 (-1)) := by rw [hn]; exact (hS.out.ofs (S.length - 1) (by omega)).2.1
  rw [← hn] at h2 h9 HR ⊢
  have HN : Hid (n = S.length) := hn
  clear hn
  go_enter Trym.func17, Trym.ntmps17
  go_wp2_with fail
  go_loopw [8, 9, 11] (fun lv cl i wr => ∃ (k : Nat) (st : Int × Bool), k ≤ n ∧ i = .int .i64 k ∧ lv = .int .i64 st.1 ∧ cl = .bool st.2 ∧ Hid (p3 t sh S n (p1 t ln S k st) = R) ∧ ∃ m, wr = w.drewN m) (fun _ _ i _ => n - (intOf i).toNat)
  case atStart => exact ⟨n - 2, (-1, false), by omega, by go_num, rfl, rfl, HR, 0, rfl⟩
  case round =>
    clear HR cl
    obtain ⟨k, ⟨lv, cl⟩, hk, rfl, rfl, rfl, HR, m, rfl⟩ := hrel
    by_cases hlt : k < n
    · obtain ⟨s, hs⟩ : ∃ s, s = S.getD k z0 := ⟨_, rfl⟩
      have hkS : k < S.length := by rw [← HN.out]; exact hlt
      have HST : Hid (StepAt w b (k * 5) s.1 s.2) := by rw [hs]; exact hS.out.ofs k hkS
      have HSO : Hid (Sorted s.2) := by rw [hs]; exact hS.out.sorted k hkS
      have hsh1 : s.2.length ≤ 1048576 := by rw [hs]; exact hS.out.short k hkS
      have hat : 0 ≤ s.1 ∧ s.1 ≤ 2097152 := by rw [hs]; exact hS.out.at0 k hkS
      have HR' : Hid (p3 t sh S n (p1 t ln S (k + 1) (upd1 t ln (lv, cl) s)) = R) := by
        have := HR.out
        rw [p1_step hkS, ← hs] at this
        exact this
      clear HR hs hkS
      obtain ⟨p, L⟩ := s
      simp only at HST HSO hsh1 hat
      obtain ⟨hat0, hat1⟩ := hat
      cases L with
      | nil =>
        have HU : Hid (upd1 t ln (lv, cl) (p, []) = (lv, cl)) := rfl
        go_wp2_with fail
        refine (ends18 b _ p [] _ (by exact HST.out.drewN m)).mono ?_
        rintro e w' ⟨rfl, n1, rfl⟩
        simp only [List.isEmpty_nil, Bool.not_true]
        go_wp2_with fail
        go_roundw
        case rel => exact ⟨k + 1, (lv, cl), by omega, by go_num, rfl, rfl, by rw [← HU.out]; exact HR', _, rfl⟩
        case measure => simp [intOf]; omega
      | cons x L =>
        have HE : Hid ((!(x :: L).isEmpty) = true) := rfl
        generalize x :: L = l at *
        cases hv : lvl l t with
        | none =>
          have HV : Hid (lvl l t = none) := hv
          have HU : Hid (upd1 t ln (lv, cl) (p, l) = (lv, cl)) := by show upd1 t ln (lv, cl) (p, l) = (lv, cl); simp [upd1, hv]
          clear hv
          go_wp2_with fail
          refine (ends18 b _ p l _ (by exact HST.out.drewN m)).mono ?_
          rintro e w' ⟨rfl, n1, rfl⟩
          rw [HE.out]
          go_wp2_with fail
          refine (closes19 b _ p l t lb g cap ln _ (by exact HST.out.drewN _) HSO hsh1 (by exact hl.out.drewN _) hat0 hat1 hm2).mono ?_
          rintro e w' ⟨rfl, n2, rfl⟩
          rw [HV.out]
          simp only [Option.getD_none, Option.isSome_none, Bool.false_and]
          go_wp2_with fail
          go_roundw
          case rel => exact ⟨k + 1, (lv, cl), by omega, by go_num, rfl, rfl, by rw [← HU.out]; exact HR', _, rfl⟩
          case measure => simp [intOf]; omega
        | some y =>
          have HV : Hid (lvl l t = some y) := hv
          have HU : Hid (upd1 t ln (lv, cl) (p, l) = if dashB ln p && (decide (lv < 0) || decide (y < lv)) then (y, true) else (lv, cl)) := by show upd1 t ln (lv, cl) (p, l) = _; simp [upd1, hv]
          clear hv
          go_wp2_with fail
          refine (ends18 b _ p l _ (by exact HST.out.drewN m)).mono ?_
          rintro e w' ⟨rfl, n1, rfl⟩
          rw [HE.out]
          go_wp2_with fail
          refine (closes19 b _ p l t lb g cap ln _ (by exact HST.out.drewN _) HSO hsh1 (by exact hl.out.drewN _) hat0 hat1 hm2).mono ?_
          rintro e w' ⟨rfl, n2, rfl⟩
          rw [HV.out]
          simp only [Option.getD_some, Option.isSome_some, Bool.true_and]
          cases hd : dashB ln p with
          | false =>
            have HU' : Hid (upd1 t ln (lv, cl) (p, l) = (lv, cl)) := by show upd1 t ln (lv, cl) (p, l) = _; rw [HU.out, hd]; simp
            clear HU hd
            go_wp2_with fail
            go_roundw
            case rel => exact ⟨k + 1, (lv, cl), by omega, by go_num, rfl, rfl, by rw [← HU'.out]; exact HR', _, rfl⟩
            case measure => simp [intOf]; omega
          | true =>
            by_cases hlv : lv < 0
            · have HU' : Hid (upd1 t ln (lv, cl) (p, l) = (y, true)) := by show upd1 t ln (lv, cl) (p, l) = _; rw [HU.out, hd]; simp [hlv]
              clear HU hd
              go_wp2_with fail
              go_roundw
              case rel => exact ⟨k + 1, (y, true), by omega, by go_num, rfl, rfl, by rw [← HU'.out]; exact HR', _, rfl⟩
              case measure => simp [intOf]; omega
            · by_cases hyl : y < lv
              · have HU' : Hid (upd1 t ln (lv, cl) (p, l) = (y, true)) := by show upd1 t ln (lv, cl) (p, l) = _; rw [HU.out, hd]; simp [hyl]
                clear HU hd
                go_wp2_with fail
                go_roundw
                case rel => exact ⟨k + 1, (y, true), by omega, by go_num, rfl, rfl, by rw [← HU'.out]; exact HR', _, rfl⟩
                case measure => simp [intOf]; omega
              · have HU' : Hid (upd1 t ln (lv, cl) (p, l) = (lv, cl)) := by show upd1 t ln (lv, cl) (p, l) = _; rw [HU.out, hd]; simp [hyl, hlv]
                clear HU hd
                go_wp2_with fail
                go_roundw
                case rel => exact ⟨k + 1, (lv, cl), by omega, by go_num, rfl, rfl, by rw [← HU'.out]; exact HR', _, rfl⟩
                case measure => simp [intOf]; omega
    · have HR2 : Hid (p3 t sh S n (lv, cl) = R) := by
        have := HR.out
        rw [p1_done (by rw [← HN.out]; omega)] at this
        exact this
      clear HR
      have hlo := hsh.out.lo
      have hhi := hsh.out.hi
      go_wp2_with fail
      go_loopw [14] (fun i wr => ∃ (q : Int), sh ≤ q ∧ q ≤ ln.length ∧ i = .int .i32 q ∧ ∃ m, wr = w.drewN m) (fun i _ => (intOf i).toNat)
      case atStart => exact ⟨ln.length, hhi, Int.le_refl _, rfl, m, rfl⟩
      case round =>
        obtain ⟨q, hq1, hq2, rfl, m2, rfl⟩ := hrel
        by_cases hq : q = sh
        · subst hq
          have HB : Hid (blankB (byteOf ln q) = false) := hsh.out.no
          go_wp2_with fail
          refine (at21 lb g cap ln q _ (by exact hl.out.drewN _) (by omega) (by omega) hm2).mono ?_
          rintro e w' ⟨rfl, rfl⟩
          go_wp2_with fail
          refine (blank20 _ _).mono ?_
          rintro e w' ⟨rfl, rfl⟩
          rw [HB.out]
          go_wp2_with fail
          clear HB hlt hk hq1 hq2
          obtain ⟨wo, rfl⟩ : ∃ wo : World, wo = w := ⟨_, rfl⟩
          go_loopw [8, 9, 15] (fun lv cl i wr => ∃ (k : Nat) (st : Int × Bool), k ≤ n ∧ i = .int .i64 ((k : Int) - 1) ∧ lv = .int .i64 st.1 ∧ cl = .bool st.2 ∧ Hid (p3 t q S k st = R) ∧ ∃ m, wr = wo.drewN m) (fun _ _ i _ => (intOf i + 1).toNat)
          case atStart => exact ⟨n, (lv, cl), Nat.le_refl _, rfl, rfl, rfl, HR2, _, rfl⟩
          case round =>
            clear HR2
            obtain ⟨k, ⟨lv, cl⟩, hk, rfl, rfl, rfl, HR, m3, rfl⟩ := hrel
            cases k with
            | zero =>
              have HE : Hid ((lv, cl) = R) := HR.out
              go_wp2_with fail
              go_ret2
              exact ⟨by rw [← HE.out]; rfl, _, rfl⟩
            | succ k =>
              obtain ⟨s, hs⟩ : ∃ s, s = S.getD k z0 := ⟨_, rfl⟩
              have hkS : k < S.length := by rw [← HN.out]; omega
              have HST : Hid (StepAt wo b (k * 5) s.1 s.2) := by rw [hs]; exact hS.out.ofs k hkS
              have HSO : Hid (Sorted s.2) := by rw [hs]; exact hS.out.sorted k hkS
              have hsh1 : s.2.length ≤ 1048576 := by rw [hs]; exact hS.out.short k hkS
              have HR' : Hid ((if q ≤ s.1 then p3 t q S k (upd2 t (lv, cl) s) else (lv, cl)) = R) := by
                have := HR.out
                rw [p3, ← hs] at this
                exact this
              clear HR hs hkS
              obtain ⟨p, L⟩ := s
              simp only at HST HSO hsh1 HR'
              have c1 : wo.cell? ⟨b, k * 5 + 1, none⟩ = some (.int .i32 p) := HST.out.1
              have ek : (((k + 1 : Nat) : Int) - 1) = (k : Int) := by omega
              rw [ek]
              clear ek
              by_cases hqp : q ≤ p
              · have HR3 : Hid (p3 t q S k (upd2 t (lv, cl) (p, L)) = R) := by
                  have := HR'.out
                  rw [if_pos hqp] at this
                  exact this
                clear HR'
                cases hv : lvl L t with
                | none =>
                  have HV : Hid (lvl L t = none) := hv
                  have HU : Hid (upd2 t (lv, cl) (p, L) = (lv, cl)) := by show upd2 t (lv, cl) (p, L) = (lv, cl); simp [upd2, hv]
                  clear hv
                  go_wp2_with fail
                  refine (level23 b _ p L t _ (by exact HST.out.drewN _) HSO hsh1).mono ?_
                  rintro e w' ⟨rfl, n2, rfl⟩
                  rw [HV.out]
                  simp only [Option.getD_none, Option.isSome_none]
                  go_wp2_with fail
                  go_roundw
                  case rel => exact ⟨k, (lv, cl), by omega, rfl, rfl, rfl, by rw [← HU.out]; exact HR3, _, rfl⟩
                  case measure => simp [intOf]
                | some y =>
                  have HV : Hid (lvl L t = some y) := hv
                  have HU : Hid (upd2 t (lv, cl) (p, L) = if decide (lv < 0) || decide (y < lv) then (y, false) else (lv, cl)) := by show upd2 t (lv, cl) (p, L) = _; simp [upd2, hv]
                  clear hv
                  go_wp2_with fail
                  refine (level23 b _ p L t _ (by exact HST.out.drewN _) HSO hsh1).mono ?_
                  rintro e w' ⟨rfl, n2, rfl⟩
                  rw [HV.out]
                  simp only [Option.getD_some, Option.isSome_some]
                  by_cases hlv : lv < 0
                  · have HU' : Hid (upd2 t (lv, cl) (p, L) = (y, false)) := by show upd2 t (lv, cl) (p, L) = _; rw [HU.out]; simp [hlv]
                    clear HU
                    go_wp2_with fail
                    go_roundw
                    case rel => exact ⟨k, (y, false), by omega, rfl, rfl, rfl, by rw [← HU'.out]; exact HR3, _, rfl⟩
                    case measure => simp [intOf]
                  · by_cases hyl : y < lv
                    · have HU' : Hid (upd2 t (lv, cl) (p, L) = (y, false)) := by show upd2 t (lv, cl) (p, L) = _; rw [HU.out]; simp [hyl]
                      clear HU
                      go_wp2_with fail
                      go_roundw
                      case rel => exact ⟨k, (y, false), by omega, rfl, rfl, rfl, by rw [← HU'.out]; exact HR3, _, rfl⟩
                      case measure => simp [intOf]
                    · have HU' : Hid (upd2 t (lv, cl) (p, L) = (lv, cl)) := by show upd2 t (lv, cl) (p, L) = _; rw [HU.out]; simp [hyl, hlv]
                      clear HU
                      go_wp2_with fail
                      go_roundw
                      case rel => exact ⟨k, (lv, cl), by omega, rfl, rfl, rfl, by rw [← HU'.out]; exact HR3, _, rfl⟩
                      case measure => simp [intOf]
              · have HE : Hid ((lv, cl) = R) := by
                  have := HR'.out
                  rw [if_neg hqp] at this
                  exact this
                go_wp2_with fail
                go_ret2
                exact ⟨by rw [← HE.out]; rfl, _, rfl⟩
        · have HB : Hid (blankB (byteOf ln q) = true) := hsh.out.yes q (by omega) hq2
          have hq' : sh ≤ q - 1 := by omega
          clear hq
          go_wp2_with fail
          refine (at21 lb g cap ln q _ (by exact hl.out.drewN _) (by omega) (by omega) hm2).mono ?_
          rintro e w' ⟨rfl, rfl⟩
          go_wp2_with fail
          refine (blank20 _ _).mono ?_
          rintro e w' ⟨rfl, rfl⟩
          rw [HB.out]
          go_wp2_with fail
          refine (prev22 lb g cap ln q _ (by exact hl.out.drewN _) (by omega) (by omega)).mono ?_
          rintro e w' ⟨rfl, rfl⟩
          go_wp2_with fail
          go_roundw
          case rel => exact ⟨q - 1, hq', by omega, rfl, _, rfl⟩
          case measure => simp [intOf]; omega
end Go.Proofs.Qxb6605764aMods
