import Derived.Test.Qxb6605764aModsLawOne
import Derived.Test.Qxb6605764aModsPlainTwo
import Derived.Deep.DeepCutAuto
namespace Go.Proofs.Qxb6605764aMods
open Go.RowKit
set_option linter.unusedVariables false
set_option maxRecDepth 100000

section
variable (a0 a1 a2 a3 a4 : Option Addr) (lo c0 le c1 lt c2 l1 c3 l2 c4 : Nat) (t : Int) (w : World)

theorem bytes16 (h : lo + le + lt + l1 + l2 ≤ 1048576) :
    Calls Trym.prog 16 #[.slice a0 lo c0, .slice a1 le c1, .slice a2 lt c2, .slice a3 l1 c3, .slice a4 l2 c4, .int .i64 t] w fun e w' => e = .returned (.bool true) ∧ w' = w := by
  go_enter Trym.func16, Trym.ntmps16
  go_wp2
  go_ret
  exact ⟨rfl, rfl⟩

theorem bytes16_no (hm0 : lo ≤ maxLen) (hm1 : le ≤ maxLen) (hm2 : lt ≤ maxLen) (hm3 : l1 ≤ maxLen) (hm4 : l2 ≤ maxLen) (h : ¬ lo + le + lt + l1 + l2 ≤ 1048576) :
    Calls Trym.prog 16 #[.slice a0 lo c0, .slice a1 le c1, .slice a2 lt c2, .slice a3 l1 c3, .slice a4 l2 c4, .int .i64 t] w fun e w' => e = .returned (.bool false) ∧ w' = w := by
  unfold maxLen at hm0 hm1 hm2 hm3 hm4
  go_enter Trym.func16, Trym.ntmps16
  go_wp2
  all_goals
    go_ret
    exact ⟨rfl, rfl⟩

theorem two_big (hm0 : lo ≤ maxLen) (hm1 : le ≤ maxLen) (hm2 : lt ≤ maxLen) (hm3 : l1 ≤ maxLen) (hm4 : l2 ≤ maxLen) (h : ¬ lo + le + lt + l1 + l2 ≤ 1048576) :
    Calls Trym.prog 4 #[.slice a0 lo c0, .slice a1 le c1, .slice a2 lt c2, .slice a3 l1 c3, .slice a4 l2 c4, .int .i64 t] w (YesPost w) := by
  have HC : Hid (Calls Trym.prog 16 #[.slice a0 lo c0, .slice a1 le c1, .slice a2 lt c2, .slice a3 l1 c3, .slice a4 l2 c4, .int .i64 t] w fun e w' => e = .returned (.bool false) ∧ w' = w) := bytes16_no a0 a1 a2 a3 a4 lo c0 le c1 lt c2 l1 c3 l2 c4 t w hm0 hm1 hm2 hm3 hm4 h
  clear h
  go_enter Trym.func4, Trym.ntmps4
  go_wp2_with fail
  refine HC.out.mono ?_
  rintro e w' ⟨rfl, rfl⟩
  go_wp2_with fail
  go_ret
  exact ⟨rfl, Below.refl _ _⟩

set_option maxHeartbeats 2000000 in
/-- One of the five is too long: true at once. -/
theorem two_long (h : lo + le + lt + l1 + l2 ≤ 1048576) (h1 : 262144 < lo ∨ 262144 < le ∨ 262144 < lt ∨ 8192 < l1 ∨ 8192 < l2) :
    Calls Trym.prog 4 #[.slice a0 lo c0, .slice a1 le c1, .slice a2 lt c2, .slice a3 l1 c3, .slice a4 l2 c4, .int .i64 t] w (YesPost w) := by
  have HC : Hid (Calls Trym.prog 16 #[.slice a0 lo c0, .slice a1 le c1, .slice a2 lt c2, .slice a3 l1 c3, .slice a4 l2 c4, .int .i64 t] w fun e w' => e = .returned (.bool true) ∧ w' = w) := bytes16 a0 a1 a2 a3 a4 lo c0 le c1 lt c2 l1 c3 l2 c4 t w h
  by_cases g0 : 262144 < lo
  · clear h1
    go_enter Trym.func4, Trym.ntmps4
    go_wp2_with fail
    refine HC.out.mono ?_
    rintro e w' ⟨rfl, rfl⟩
    go_wp2_with fail
    go_ret
    exact ⟨rfl, Below.refl _ _⟩
  · by_cases g1 : 262144 < le
    · clear h1
      go_enter Trym.func4, Trym.ntmps4
      go_wp2_with fail
      refine HC.out.mono ?_
      rintro e w' ⟨rfl, rfl⟩
      go_wp2_with fail
      go_ret
      exact ⟨rfl, Below.refl _ _⟩
    · by_cases g2 : 262144 < lt
      · clear h1
        go_enter Trym.func4, Trym.ntmps4
        go_wp2_with fail
        refine HC.out.mono ?_
        rintro e w' ⟨rfl, rfl⟩
        go_wp2_with fail
        go_ret
        exact ⟨rfl, Below.refl _ _⟩
      · by_cases g3 : 8192 < l1
        · clear h1
          go_enter Trym.func4, Trym.ntmps4
          go_wp2_with fail
          refine HC.out.mono ?_
          rintro e w' ⟨rfl, rfl⟩
          go_wp2_with fail
          go_ret
          exact ⟨rfl, Below.refl _ _⟩
        · have g4 : 8192 < l2 := by omega
          clear h1
          go_enter Trym.func4, Trym.ntmps4
          go_wp2_with fail
          refine HC.out.mono ?_
          rintro e w' ⟨rfl, rfl⟩
          go_wp2_with fail
          go_ret
          exact ⟨rfl, Below.refl _ _⟩

theorem two_short (h0 : lo ≤ 262144) (h1 : le ≤ 262144) (h2 : lt ≤ 262144) (h3 : l1 ≤ 8192) (h4 : l2 ≤ 8192) (h : lo = 0 ∨ le = 0) :
    Calls Trym.prog 4 #[.slice a0 lo c0, .slice a1 le c1, .slice a2 lt c2, .slice a3 l1 c3, .slice a4 l2 c4, .int .i64 t] w (YesPost w) := by
  have HC : Hid (Calls Trym.prog 16 #[.slice a0 lo c0, .slice a1 le c1, .slice a2 lt c2, .slice a3 l1 c3, .slice a4 l2 c4, .int .i64 t] w fun e w' => e = .returned (.bool true) ∧ w' = w) := bytes16 a0 a1 a2 a3 a4 lo c0 le c1 lt c2 l1 c3 l2 c4 t w (by omega)
  by_cases g0 : lo = 0
  · subst g0
    clear h
    go_enter Trym.func4, Trym.ntmps4
    go_wp2_with fail
    refine HC.out.mono ?_
    rintro e w' ⟨rfl, rfl⟩
    go_wp2_with fail
    go_ret
    exact ⟨rfl, Below.refl _ _⟩
  · have g1 : le = 0 := by omega
    subst g1
    have g2 : 0 < lo := by omega
    clear h g0
    go_enter Trym.func4, Trym.ntmps4
    go_wp2_with fail
    refine HC.out.mono ?_
    rintro e w' ⟨rfl, rfl⟩
    go_wp2_with fail
    go_ret
    exact ⟨rfl, Below.refl _ _⟩

theorem two_blank (b1 o1 : Nat) (x : Int) (hp0 : 0 < lo) (hp1 : 0 < le) (h0 : lo ≤ 262144) (h1 : le ≤ 262144) (h2 : lt ≤ 262144) (h3 : l1 ≤ 8192) (h4 : l2 ≤ 8192)
    (hcx : w.cell? ⟨b1, o1 + (le - 1), none⟩ = some (.int .u8 x)) (hb : blankB x = true) :
    Calls Trym.prog 4 #[.slice a0 lo c0, .slice (some ⟨b1, o1, none⟩) le c1, .slice a2 lt c2, .slice a3 l1 c3, .slice a4 l2 c4, .int .i64 t] w (YesPost w) := by
  have HC : Hid (Calls Trym.prog 16 #[.slice a0 lo c0, .slice (some ⟨b1, o1, none⟩) le c1, .slice a2 lt c2, .slice a3 l1 c3, .slice a4 l2 c4, .int .i64 t] w fun e w' => e = .returned (.bool true) ∧ w' = w) := bytes16 a0 (some ⟨b1, o1, none⟩) a2 a3 a4 lo c0 le c1 lt c2 l1 c3 l2 c4 t w (by omega)
  go_enter Trym.func4, Trym.ntmps4
  go_wp2_with fail
  refine HC.out.mono ?_
  rintro e w' ⟨rfl, rfl⟩
  go_wp2_with fail
  refine (blank6 _ _).mono ?_
  rintro e w' ⟨rfl, rfl⟩
  rw [hb]
  go_wp2_with fail
  go_ret
  exact ⟨rfl, Below.refl _ _⟩
end
end Go.Proofs.Qxb6605764aMods
