import Derived.Test.Qxb6605764aModsRead
namespace Go.Proofs.Qxb6605764aMods
open Go.RowKit
set_option linter.unusedVariables false

/-- What the library's search finds in a sorted list: the number of elements below t. -/
def Found (L : List Int) (t : Int) (i : Nat) : Prop := i ≤ L.length ∧ (∀ j, j < i → L.getD j 0 < t) ∧ (∀ j, i ≤ j → j < L.length → t ≤ L.getD j 0)

def SearchPost (L : List Int) (t : Int) (w : World) (e : Ending) (w' : World) : Prop :=
  ∃ (i : Nat) (q : Bool), e = .returned (.tuple #[.int .i64 i, .bool q]) ∧ Found L t i ∧ w' = w

/-- A sorted list rises. -/
theorem Sorted.mono {L : List Int} (h : Sorted L) {i j : Nat} (hij : i ≤ j) (hj : j < L.length) : L.getD i 0 ≤ L.getD j 0 := by
  induction j with
  | zero => simp at hij; subst hij; exact Int.le_refl _
  | succ j ih =>
    by_cases e : i = j + 1
    · subst e; exact Int.le_refl _
    · have h1 := ih (by omega) (by omega)
      have h2 := (h (j + 1) hj).2 (by omega)
      simp only [Nat.add_sub_cancel] at h2
      omega

theorem found_done {L : List Int} {t : Int} {n l h : Nat} (hn : Hid (L.length = n)) (hlh : l ≤ h) (hge : ¬ l < h) (hhn : h ≤ n) (A : Hid (∀ q, q < l → L.getD q 0 < t)) (B : Hid (∀ q, h ≤ q → q < n → t ≤ L.getD q 0)) : Found L t l := by
  have e : l = h := by omega
  subst e
  exact ⟨by rw [hn.out]; exact hhn, A.out, fun j h1 h2 => B.out j h1 (by rw [← hn.out]; exact h2)⟩

set_option maxHeartbeats 1000000 in
theorem search25_row (b o c : Nat) (L : List Int) (t : Int) (w : World) (hm : L.length ≤ 1048576) (hs : Hid (Sorted L))
    (hc : ∀ i, i < L.length → w.cell? ⟨b, o + i, none⟩ = some (.int .i64 (L.getD i 0))) :
    Calls Trym.prog 25 #[.slice (some ⟨b, o, none⟩) L.length c, .int .i64 t] w (SearchPost L t w) := by
  generalize hn : L.length = n at *
  have Hn : Hid (L.length = n) := hn
  clear hn
  go_enter Trym.func25, Trym.ntmps25
  go_wp2
  go_loop [7, 8] (fun i j => ∃ l h : Nat, l ≤ h ∧ h ≤ n ∧ i = .int .i64 l ∧ j = .int .i64 h ∧ Hid (∀ q, q < l → L.getD q 0 < t) ∧ Hid (∀ q, h ≤ q → q < n → t ≤ L.getD q 0)) (fun i j => ((intOf j).toNat - (intOf i).toNat))
  case atStart => exact ⟨0, n, Nat.zero_le _, Nat.le_refl _, rfl, rfl, fun q hq => absurd hq (Nat.not_lt_zero _), fun q h1 h2 => by omega⟩
  case round =>
    obtain ⟨l, h, hlh, hhn, rfl, rfl, A, B⟩ := hrel
    by_cases hlt : l < h
    · obtain ⟨x, hx⟩ : ∃ x, x = L.getD ((l + h) / 2) 0 := ⟨_, rfl⟩
      have hcx : w.cell? ⟨b, o + ((l + h) / 2), none⟩ = some (.int .i64 x) := by rw [hx]; exact hc _ (by omega)
      have HX : Hid (x = L.getD ((l + h) / 2) 0) := hx
      clear hx hc
      by_cases hxt : x < t
      · go_wp2_with (first | (go_at_call 27; refine (less27 _ _ _).mono ?_; rintro e w' ⟨rfl, rfl⟩))
        go_round
        case rel =>
          refine ⟨(l + h) / 2 + 1, h, by omega, hhn, by go_num, rfl, fun q hq => ?_, B⟩
          have := hs.out.mono (i := q) (j := (l + h) / 2) (by omega) (by rw [Hn.out]; omega)
          rw [← HX.out] at this
          omega
        case measure => simp [intOf]; omega
      · go_wp2_with (first | (go_at_call 27; refine (less27 _ _ _).mono ?_; rintro e w' ⟨rfl, rfl⟩))
        go_round
        case rel =>
          refine ⟨l, (l + h) / 2, by omega, by omega, rfl, by go_num, A, fun q h1 h2 => ?_⟩
          have := hs.out.mono (i := (l + h) / 2) (j := q) (by omega) (by rw [Hn.out]; omega)
          rw [← HX.out] at this
          omega
        case measure => simp [intOf]; omega
    · have F := found_done Hn hlh hlt hhn A B
      have HF : Hid (Found L t l) := F
      clear F A B
      by_cases hln : l < n
      · obtain ⟨x, hx⟩ : ∃ x, x = L.getD l 0 := ⟨_, rfl⟩
        have hcx : w.cell? ⟨b, o + l, none⟩ = some (.int .i64 x) := by rw [hx]; exact hc _ hln
        clear hx hc
        by_cases hxt : x = t
        · subst hxt
          go_wp2_with (first | (go_at_call 28; refine (nan28 _ _).mono ?_; rintro e w' ⟨rfl, rfl⟩))
          go_ret2
          exact ⟨l, _, rfl, HF.out, rfl⟩
        · have hne : (x == t) = false := by simpa using hxt
          go_wp2_with (first | (go_at_call 28; refine (nan28 _ _).mono ?_; rintro e w' ⟨rfl, rfl⟩))
          go_ret2
          exact ⟨l, _, rfl, HF.out, rfl⟩
      · clear hc
        go_wp2_with (first | (go_at_call 28; refine (nan28 _ _).mono ?_; rintro e w' ⟨rfl, rfl⟩))
        go_ret2
        exact ⟨l, _, rfl, HF.out, rfl⟩
end Go.Proofs.Qxb6605764aMods
