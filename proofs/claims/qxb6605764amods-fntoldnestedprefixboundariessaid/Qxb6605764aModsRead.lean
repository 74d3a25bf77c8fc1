import Derived.Test.Qxb6605764aModsLeaf
namespace Go.Proofs.Qxb6605764aMods
open Go.RowKit
set_option linter.unusedVariables false

/-- The slice's elements are the numbers 'zs': nothing is asked of an empty one. -/
def Row (k : IntKind) (w : World) (a : Option Addr) (zs : List Int) : Prop :=
  zs = [] ∨ ∃ b o, a = some ⟨b, o, none⟩ ∧ ∀ i, i < zs.length → w.cell? ⟨b, o + i, none⟩ = some (.int k (zs.getD i 0))

def Sorted (L : List Int) : Prop := ∀ i, i < L.length → 0 ≤ L.getD i 0 ∧ (0 < i → L.getD (i - 1) 0 ≤ L.getD i 0)

theorem sorted7_nil (a : Option Addr) (c : Nat) (w : World) :
    Calls Trym.prog 7 #[.slice a 0 c] w fun e w' => e = .returned (.bool true) ∧ w' = w := by
  go_enter Trym.func7, Trym.ntmps7
  go_wp2
  refine wp_loop_rounds 1 ?_
  rw [rounds_succ]
  go_wp2
  go_ret
  exact ⟨rfl, rfl⟩

set_option maxHeartbeats 1000000 in
theorem sorted7_row (b o c : Nat) (L : List Int) (w : World) (hm : L.length ≤ maxLen)
    (hc : ∀ i, i < L.length → w.cell? ⟨b, o + i, none⟩ = some (.int .i64 (L.getD i 0))) :
    Calls Trym.prog 7 #[.slice (some ⟨b, o, none⟩) L.length c] w fun e w' => ∃ q : Bool, e = .returned (.bool q) ∧ (q = true → Sorted L) ∧ ∃ m, w' = w.drewN m := by
  unfold maxLen at hm
  generalize hn : L.length = n at *
  have Hn : Hid (L.length = n) := hn
  clear hn
  go_enter Trym.func7, Trym.ntmps7
  go_wp2
  go_loopw [3] (fun i wr => ∃ k : Nat, k ≤ n ∧ i = .int .i64 k ∧ (∃ m, wr = w.drewN m) ∧ Hid (∀ j, j < k → 0 ≤ L.getD j 0 ∧ (0 < j → L.getD (j - 1) 0 ≤ L.getD j 0))) (fun i _ => n - (intOf i).toNat)
  case atStart => exact ⟨0, Nat.zero_le _, rfl, ⟨0, rfl⟩, fun j hj => absurd hj (Nat.not_lt_zero _)⟩
  case round =>
    obtain ⟨k, hk, rfl, ⟨m, rfl⟩, hs⟩ := hrel
    by_cases hlt : k < n
    · obtain ⟨x, hx⟩ : ∃ x, x = L.getD k 0 := ⟨_, rfl⟩
      obtain ⟨y, hy⟩ : ∃ y, y = L.getD (k - 1) 0 := ⟨_, rfl⟩
      have hcx : w.cell? ⟨b, o + k, none⟩ = some (.int .i64 x) := by rw [hx]; exact hc k hlt
      have hcy : w.cell? ⟨b, o + (k - 1), none⟩ = some (.int .i64 y) := by rw [hy]; exact hc (k - 1) (by omega)
      have HX : Hid (x = L.getD k 0) := hx
      have HY : Hid (y = L.getD (k - 1) 0) := hy
      have hz : (0 : Int) ≤ (k : Int) := by omega
      have hz' : (k : Int) < (n : Int) := by omega
      clear hx hy
      have HC := hc
      clear hc
      by_cases h0 : x < 0
      · have d0 : decide (x < 0) = true := by simpa using h0
        go_wp2
        go_quiet (fail)
        go_wp2
        go_ret
        exact ⟨false, rfl, (fun h => by cases h), ⟨_, World.drewN_drewN _ _ _⟩⟩
      · have d0 : decide (x < 0) = false := by simpa using h0
        by_cases h1 : 0 < k
        · have d1 : decide (0 < (k : Int)) = true := by simp; omega
          by_cases h2 : x < y
          · have d2 : decide (x < y) = true := by simpa using h2
            go_wp2
            go_quiet (fail)
            go_wp2
            go_ret
            exact ⟨false, rfl, (fun h => by cases h), ⟨_, World.drewN_drewN _ _ _⟩⟩
          · have d2 : decide (x < y) = false := by simpa using h2
            go_wp2
            go_quiet (fail)
            go_wp2
            go_roundw
            case rel => 
              refine ⟨k + 1, by omega, by go_num, ⟨_, rfl⟩, fun j hj => ?_⟩
              by_cases e : j = k
              · subst e; exact ⟨by rw [← HX.out]; omega, fun _ => by rw [← HX.out, ← HY.out]; omega⟩
              · exact hs.out j (by omega)
            case measure => simp [intOf]; omega
        · have d1 : decide (0 < (k : Int)) = false := by simp; omega
          go_wp2
          go_quiet (fail)
          go_wp2
          go_roundw
          case rel => 
            refine ⟨k + 1, by omega, by go_num, ⟨_, rfl⟩, fun j hj => ?_⟩
            by_cases e : j = k
            · subst e; exact ⟨by rw [← HX.out]; omega, fun h => absurd h h1⟩
            · exact hs.out j (by omega)
          case measure => simp [intOf]; omega
    · go_wp2
      go_ret
      refine ⟨true, rfl, fun _ j hj => ?_, ⟨_, rfl⟩⟩
      rw [Hn.out] at hj
      exact hs.out j (by omega)
end Go.Proofs.Qxb6605764aMods
