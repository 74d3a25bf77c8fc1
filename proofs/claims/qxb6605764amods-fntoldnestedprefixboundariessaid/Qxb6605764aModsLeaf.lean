import Derived.Test.Qxb6605764aModsProg
import Derived.WalkKit
import Derived.Deep.QuietTactic
import Derived.BigQuiet
import Derived.Deep.OwnRows
namespace Go.Proofs.Qxb6605764aMods
open Go.RowKit
set_option linter.unusedVariables false

/-- A blank: a space or a tab. -/
def blankB (c : Int) : Bool := c == 32 || c == 9

theorem blank6 (c : Int) (w : World) : Calls Trym.prog 6 #[.int .u8 c] w fun e w' => e = .returned (.bool (blankB c)) ∧ w' = w := by
  unfold blankB
  by_cases h : c = 32
  · subst h
    go_enter Trym.func6, Trym.ntmps6
    go_wp2
    go_ret
    exact ⟨rfl, rfl⟩
  · have h1 : (c == 32) = false := by simpa using h
    go_enter Trym.func6, Trym.ntmps6
    go_wp2
    go_ret
    exact ⟨by simp [h1], rfl⟩

theorem blank20 (c : Int) (w : World) : Calls Trym.prog 20 #[.int .u8 c] w fun e w' => e = .returned (.bool (blankB c)) ∧ w' = w := by
  unfold blankB
  by_cases h : c = 32
  · subst h
    go_enter Trym.func20, Trym.ntmps20
    go_wp2
    go_ret
    exact ⟨rfl, rfl⟩
  · have h1 : (c == 32) = false := by simpa using h
    go_enter Trym.func20, Trym.ntmps20
    go_wp2
    go_ret
    exact ⟨by simp [h1], rfl⟩

theorem nan28 (x : Int) (w : World) : Calls Trym.prog 28 #[.int .i64 x] w fun e w' => e = .returned (.bool false) ∧ w' = w := by
  go_enter Trym.func28, Trym.ntmps28
  go_wp2
  go_ret
  exact ⟨by simp, rfl⟩

theorem less27 (x y : Int) (w : World) : Calls Trym.prog 27 #[.int .i64 x, .int .i64 y] w fun e w' => e = .returned (.bool (decide (x < y))) ∧ w' = w := by
  go_enter Trym.func27, Trym.ntmps27
  go_wp2
  go_ret
  exact ⟨by simp, rfl⟩

/-- The bound on the lengths together. -/
theorem bytes5 (a0 a1 a2 : Option Addr) (l0 c0 l1 c1 l2 c2 : Nat) (f : Int) (w : World) (h : l0 + l1 + l2 ≤ 1048576) :
    Calls Trym.prog 5 #[.slice a0 l0 c0, .slice a1 l1 c1, .slice a2 l2 c2, .int .i64 f] w fun e w' => e = .returned (.bool true) ∧ w' = w := by
  go_enter Trym.func5, Trym.ntmps5
  go_wp2
  go_ret
  exact ⟨rfl, rfl⟩

theorem bytes5_no (a0 a1 a2 : Option Addr) (l0 c0 l1 c1 l2 c2 : Nat) (f : Int) (w : World) (hm0 : l0 ≤ maxLen) (hm1 : l1 ≤ maxLen) (hm2 : l2 ≤ maxLen) (h : ¬ l0 + l1 + l2 ≤ 1048576) :
    Calls Trym.prog 5 #[.slice a0 l0 c0, .slice a1 l1 c1, .slice a2 l2 c2, .int .i64 f] w fun e w' => e = .returned (.bool false) ∧ w' = w := by
  unfold maxLen at hm0 hm1 hm2
  go_enter Trym.func5, Trym.ntmps5
  go_wp2
  all_goals
    go_ret
    exact ⟨rfl, rfl⟩
end Go.Proofs.Qxb6605764aMods
