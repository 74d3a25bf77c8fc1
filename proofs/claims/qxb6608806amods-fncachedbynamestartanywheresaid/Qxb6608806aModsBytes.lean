import Derived.Test.Qxb6608806aModsFind
namespace Go.Proofs.Qxb6608806aMods
open Go.RowKit
set_option linter.unusedVariables false
set_option maxRecDepth 100000

/-- What is known of a slice of strings that came in: nothing of an empty one. -/
structure Strs (w : World) (a : Option Addr) (n : Nat) (N : List ByteArray) : Prop where
  len : N.length = n
  max : n ≤ maxLen
  row : 0 < n → ∃ b o, a = some ⟨b, o, none⟩ ∧ StrRow w b o n N

theorem Strs.below {w w' : World} {a : Option Addr} {n : Nat} {N : List ByteArray} (h : Strs w a n N) (hb : Below w.heap.size w w') : Strs w' a n N :=
  ⟨h.len, h.max, fun h0 => by obtain ⟨b, o, e, r⟩ := h.row h0; exact ⟨b, o, e, r.below hb⟩⟩
theorem Strs.drewN {w : World} {a : Option Addr} {n : Nat} {N : List ByteArray} (h : Strs w a n N) (q : Nat) : Strs (w.drewN q) a n N :=
  ⟨h.len, h.max, fun h0 => by obtain ⟨b, o, e, r⟩ := h.row h0; exact ⟨b, o, e, r.drewN q⟩⟩

theorem rises6 (a : Option Addr) (n c : Nat) (N : List ByteArray) (w : World) (hm : n ≤ 1048576) (hr : Strs w a n N) : Calls Trym.prog 6 #[.slice a n c] w (RisesPost N w) := by
  by_cases h0 : 0 < n
  · obtain ⟨b, o, rfl, r⟩ := hr.row h0
    exact rises6_row b o n c N w h0 hm r
  · obtain rfl : n = 0 := by omega
    refine (rises6_nil a c w).mono ?_
    rintro e w' ⟨rfl, rfl⟩
    refine ⟨true, rfl, fun _ j h1 h2 => ?_, 0, rfl⟩
    rw [hr.len] at h2
    omega

theorem low8 (a : Option Addr) (n c : Nat) (N : List ByteArray) (q : ByteArray) (w : World) (hm : n ≤ 1048576) (hr : Strs w a n N) (hs : Hid (Rises N)) : Calls Trym.prog 8 #[.slice a n c, .string q] w (LowPost N q n w) := by
  by_cases h0 : 0 < n
  · obtain ⟨b, o, rfl, r⟩ := hr.row h0
    exact low8_row b o n c N q w hm r hs
  · obtain rfl : n = 0 := by omega
    exact low8_nil a c N q w

/-- Every string is short. -/
def Short (N : List ByteArray) (n : Nat) : Prop := n ≤ 1048576 ∧ ∀ i, i < n → (nm N i).size ≤ 1048576

def BytesPost (N M : List ByteArray) (n m : Nat) (w : World) (e : Ending) (w' : World) : Prop := ∃ q : Bool, e = .returned (.bool q) ∧ (q = true → Short N n ∧ Short M m) ∧ w' = w

set_option maxHeartbeats 2000000 in
theorem bytes5 (a0 a1 : Option Addr) (n c0 m c1 : Nat) (N M : List ByteArray) (w : World) (r0 : Hid (Strs w a0 n N)) (r1 : Hid (Strs w a1 m M)) :
    Calls Trym.prog 5 #[.slice a0 n c0, .slice a1 m c1] w (BytesPost N M n m w) := by
  have m0 := r0.out.max
  have m1 := r1.out.max
  unfold maxLen at m0 m1
  have no : ∀ e w', (∃ q : Bool, q = false ∧ e = .returned (.bool q) ∧ w' = w) → BytesPost N M n m w e w' := fun e w' ⟨q, h1, h2, h3⟩ => ⟨q, h2, (fun h => by rw [h1] at h; cases h), h3⟩
  have NO : Hid (∀ e w', (∃ q : Bool, q = false ∧ e = .returned (.bool q) ∧ w' = w) → BytesPost N M n m w e w') := no
  clear no
  by_cases hn : n ≤ 1048576
  · go_enter Trym.func5, Trym.ntmps5
    go_wp2_with fail
    go_loop [5, 6] (fun t i => ∃ (k T : Nat), k ≤ n ∧ T ≤ 1048576 ∧ i = .int .i64 k ∧ t = .int .i64 T ∧ Hid (∀ j, j < k → (nm N j).size ≤ 1048576)) (fun _ i => n - (intOf i).toNat)
    case atStart => exact ⟨0, n, Nat.zero_le _, hn, rfl, rfl, fun j hj => absurd hj (Nat.not_lt_zero _)⟩
    case round =>
      obtain ⟨k, T, hk, hT, rfl, rfl, A⟩ := hrel
      by_cases hlt : k < n
      · obtain ⟨b, o, rfl, R⟩ := r0.out.row (by omega)
        have hcx := R.cell k hlt
        have hsx := R.sz k hlt
        unfold maxLen at hsx
        clear R
        obtain ⟨x, hx⟩ : ∃ x, x = nm N k := ⟨_, rfl⟩
        rw [← hx] at hcx hsx
        have HX : Hid (x = nm N k) := hx
        clear hx
        by_cases h1 : 1048576 < x.size
        · go_wp2
          go_ret
          exact NO.out _ _ ⟨false, rfl, rfl, rfl⟩
        · by_cases h2 : 1048576 < T + x.size
          · go_wp2
            go_ret
            exact NO.out _ _ ⟨false, rfl, rfl, rfl⟩
          · go_wp2
            go_round
            case rel =>
              refine ⟨k + 1, T + x.size, by omega, by omega, by go_num, by go_num, fun j hj => ?_⟩
              by_cases e : j = k
              · subst e; rw [← HX.out]; omega
              · exact A.out j (by omega)
            case measure => simp [intOf]; omega
      · obtain rfl : k = n := by omega
        by_cases hm : m ≤ 1048576
        · by_cases hTm : 1048576 < T + m
          · go_wp2_with fail
            go_ret
            exact NO.out _ _ ⟨false, rfl, rfl, rfl⟩
          · go_wp2_with fail
            go_loop [5, 7] (fun t i => ∃ (j T : Nat), j ≤ m ∧ T ≤ 1048576 ∧ i = .int .i64 j ∧ t = .int .i64 T ∧ Hid (∀ i, i < j → (nm M i).size ≤ 1048576)) (fun _ i => m - (intOf i).toNat)
            case atStart => exact ⟨0, T + m, Nat.zero_le _, by omega, rfl, by go_num, fun j hj => absurd hj (Nat.not_lt_zero _)⟩
            case round =>
              clear hT hTm
              obtain ⟨j, T2, hj, hT2, rfl, rfl, B⟩ := hrel
              by_cases hlt2 : j < m
              · obtain ⟨b, o, rfl, R⟩ := r1.out.row (by omega)
                have hcx := R.cell j hlt2
                have hsx := R.sz j hlt2
                unfold maxLen at hsx
                clear R
                obtain ⟨x, hx⟩ : ∃ x, x = nm M j := ⟨_, rfl⟩
                rw [← hx] at hcx hsx
                have HX : Hid (x = nm M j) := hx
                clear hx
                by_cases h1 : 1048576 < x.size
                · go_wp2
                  go_ret
                  exact NO.out _ _ ⟨false, rfl, rfl, rfl⟩
                · by_cases h2 : 1048576 < T2 + x.size
                  · go_wp2
                    go_ret
                    exact NO.out _ _ ⟨false, rfl, rfl, rfl⟩
                  · go_wp2
                    go_round
                    case rel =>
                      refine ⟨j + 1, T2 + x.size, by omega, by omega, by go_num, by go_num, fun i hi => ?_⟩
                      by_cases e : i = j
                      · subst e; rw [← HX.out]; omega
                      · exact B.out i (by omega)
                    case measure => simp [intOf]; omega
              · obtain rfl : j = m := by omega
                go_wp2
                go_ret
                exact ⟨true, rfl, fun _ => ⟨⟨hn, A.out⟩, ⟨hm, B.out⟩⟩, rfl⟩
        · go_wp2_with fail
          go_ret
          exact NO.out _ _ ⟨false, rfl, rfl, rfl⟩
  · go_enter Trym.func5, Trym.ntmps5
    go_wp2_with fail
    go_ret
    exact NO.out _ _ ⟨false, rfl, rfl, rfl⟩
end Go.Proofs.Qxb6608806aMods
