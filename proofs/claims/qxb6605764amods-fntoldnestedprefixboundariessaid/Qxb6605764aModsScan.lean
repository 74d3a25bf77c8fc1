import Derived.Test.Qxb6605764aModsBs
namespace Go.Proofs.Qxb6605764aMods
open Go.RowKit
set_option linter.unusedVariables false

/-- The first of the levels that is at least t. -/
def lvl (L : List Int) (t : Int) : Option Int := L.find? (fun x => decide (t ≤ x))

theorem lvl_found {L : List Int} {t : Int} {i : Nat} (h : Found L t i) : lvl L t = L[i]? := by
  obtain ⟨h1, h2, h3⟩ := h
  unfold lvl
  induction L generalizing i with
  | nil => simp
  | cons x L ih =>
    cases i with
    | zero =>
      have := h3 0 (Nat.le_refl _) (by simp)
      simp at this
      simp [this]
    | succ i =>
      have := h2 0 (by omega)
      simp at this
      rw [List.find?_cons_of_neg (by simp; omega)]
      rw [ih (by simpa using h1) (fun j hj => by simpa using h2 (j + 1) (by omega)) (fun j hj hl => by simpa using h3 (j + 1) (by omega) (by simpa using hl))]
      simp

def LeastPost (L : List Int) (t : Int) (w : World) (e : Ending) (w' : World) : Prop :=
  e = .returned (.tuple #[.int .i64 ((lvl L t).getD 0), .bool (lvl L t).isSome]) ∧ w' = w

theorem lvl_at {L : List Int} {t : Int} {n i : Nat} (hn : Hid (L.length = n)) (hs : Hid (Sorted L)) (hi : i < n) (A : Hid (∀ q, q < i → L.getD q 0 < t)) (ht : t ≤ L.getD i 0) : lvl L t = some (L.getD i 0) := by
  have F : Found L t i := ⟨by rw [hn.out]; omega, A.out, fun j h1 h2 => by have := hs.out.mono h1 h2; omega⟩
  rw [lvl_found F]
  have : i < L.length := by rw [hn.out]; exact hi
  simp [this]

theorem lvl_none {L : List Int} {t : Int} {n : Nat} (hn : Hid (L.length = n)) (A : Hid (∀ q, q < n → L.getD q 0 < t)) : lvl L t = none := by
  have F : Found L t n := ⟨by rw [hn.out]; omega, A.out, fun j h1 h2 => by rw [hn.out] at h2; omega⟩
  rw [lvl_found F]
  simp [hn.out]

theorem least14_nil (a : Option Addr) (c : Nat) (t : Int) (w : World) :
    Calls Trym.prog 14 #[.slice a 0 c, .int .i64 t] w (LeastPost [] t w) := by
  go_enter Trym.func14, Trym.ntmps14
  go_wp2
  refine wp_loop_rounds 1 ?_
  rw [rounds_succ]
  go_wp2
  go_ret2
  exact ⟨rfl, rfl⟩

set_option maxHeartbeats 1000000 in
theorem least14_row (b o c : Nat) (L : List Int) (t : Int) (w : World) (hm : L.length ≤ 1048576) (hs : Hid (Sorted L))
    (hc : ∀ i, i < L.length → w.cell? ⟨b, o + i, none⟩ = some (.int .i64 (L.getD i 0))) :
    Calls Trym.prog 14 #[.slice (some ⟨b, o, none⟩) L.length c, .int .i64 t] w (LeastPost L t w) := by
  generalize hn : L.length = n at *
  have Hn : Hid (L.length = n) := hn
  clear hn
  go_enter Trym.func14, Trym.ntmps14
  go_wp2
  go_loop [6, 7, 8] (fun m f j => ∃ k i : Nat, k ≤ n ∧ j = .int .i64 k ∧ Hid (∀ q, q < i → L.getD q 0 < t) ∧ ((i = k ∧ m = .int .i64 0 ∧ f = .bool false) ∨ (i < k ∧ t ≤ L.getD i 0 ∧ m = .int .i64 (L.getD i 0) ∧ f = .bool true))) (fun _ _ j => n - (intOf j).toNat)
  case atStart => exact ⟨0, 0, Nat.zero_le _, rfl, fun q hq => absurd hq (Nat.not_lt_zero _), .inl ⟨rfl, rfl, rfl⟩⟩
  case round =>
    obtain ⟨k, i, hk, rfl, A, hcase⟩ := hrel
    by_cases hlt : k < n
    · obtain ⟨x, hx⟩ : ∃ x, x = L.getD k 0 := ⟨_, rfl⟩
      have hcx : w.cell? ⟨b, o + k, none⟩ = some (.int .i64 x) := by rw [hx]; exact hc _ hlt
      have HX : Hid (x = L.getD k 0) := hx
      clear hx hc
      rcases hcase with ⟨e, rfl, rfl⟩ | ⟨hik, ht, rfl, rfl⟩
      · subst e
        by_cases hxt : t ≤ x
        · go_wp2
          go_round
          case rel => exact ⟨i + 1, i, by omega, by go_num, A, .inr ⟨by omega, by rw [← HX.out]; exact hxt, by rw [HX.out], rfl⟩⟩
          case measure => simp [intOf]; omega
        · go_wp2
          go_round
          case rel =>
            refine ⟨i + 1, i + 1, by omega, by go_num, fun q hq => ?_, .inl ⟨rfl, rfl, rfl⟩⟩
            by_cases e : q = i
            · subst e; rw [← HX.out]; omega
            · exact A.out q (by omega)
          case measure => simp [intOf]; omega
      · have hle : L.getD i 0 ≤ x := by rw [HX.out]; exact hs.out.mono (by omega) (by rw [Hn.out]; exact hlt)
        have hxt : t ≤ x := by omega
        have HT : Hid (t ≤ L.getD i 0) := ht
        obtain ⟨y, hy⟩ : ∃ y, y = L.getD i 0 := ⟨_, rfl⟩
        rw [← hy] at hle ⊢
        have HY : Hid (y = L.getD i 0) := hy
        clear hy ht
        go_wp2
        go_round
        case rel => exact ⟨k + 1, i, by omega, by go_num, A, .inr ⟨by omega, HT.out, by rw [HY.out], rfl⟩⟩
        case measure => simp [intOf]; omega
    · obtain rfl : k = n := by omega
      rcases hcase with ⟨e, rfl, rfl⟩ | ⟨hik, ht, rfl, rfl⟩
      · subst e
        have HE : Hid (lvl L t = none) := lvl_none Hn A
        clear A hc
        go_wp2
        go_ret2
        refine ⟨?_, rfl⟩
        rw [HE.out]
        rfl
      · have HE : Hid (lvl L t = some (L.getD i 0)) := lvl_at Hn hs hik A ht
        obtain ⟨y, hy⟩ : ∃ y, y = L.getD i 0 := ⟨_, rfl⟩
        rw [← hy] at HE ⊢
        clear A hc ht hy
        go_wp2
        go_ret2
        refine ⟨?_, rfl⟩
        rw [HE.out]
        rfl

/-- Is every byte a blank? -/
def allBlank (l : List Int) : Bool := l.all blankB
def AllPost (l : List Int) (w : World) (e : Ending) (w' : World) : Prop := e = .returned (.bool (allBlank l)) ∧ w' = w

theorem all15_nil (a : Option Addr) (c : Nat) (w : World) :
    Calls Trym.prog 15 #[.slice a 0 c] w (AllPost [] w) := by
  go_enter Trym.func15, Trym.ntmps15
  go_wp2
  refine wp_loop_rounds 1 ?_
  rw [rounds_succ]
  go_wp2
  go_ret
  exact ⟨rfl, rfl⟩

theorem allBlank_yes {l : List Int} {n : Nat} (hn : Hid (l.length = n)) (A : Hid (∀ q, q < n → blankB (l.getD q 0) = true)) : allBlank l = true := by
  unfold allBlank
  rw [List.all_eq_true]
  intro x hx
  obtain ⟨i, hi, rfl⟩ := List.getElem_of_mem hx
  have := A.out i (by rw [← hn.out]; exact hi)
  simpa [hi] using this

theorem allBlank_no {l : List Int} {k : Nat} (hk : k < l.length) (h : blankB (l.getD k 0) = false) : allBlank l = false := by
  unfold allBlank
  rw [List.all_eq_false]
  refine ⟨l[k], List.getElem_mem _, ?_⟩
  simpa [hk] using h

set_option maxHeartbeats 1000000 in
theorem all15_row (b o c : Nat) (L : List Int) (w : World) (hm : L.length ≤ 1048576)
    (hc : ∀ i, i < L.length → w.cell? ⟨b, o + i, none⟩ = some (.int .u8 (L.getD i 0))) :
    Calls Trym.prog 15 #[.slice (some ⟨b, o, none⟩) L.length c] w (AllPost L w) := by
  generalize hn : L.length = n at *
  have Hn : Hid (L.length = n) := hn
  clear hn
  go_enter Trym.func15, Trym.ntmps15
  go_wp2
  go_loop [3] (fun j => ∃ k : Nat, k ≤ n ∧ j = .int .i64 k ∧ Hid (∀ q, q < k → blankB (L.getD q 0) = true)) (fun j => n - (intOf j).toNat)
  case atStart => exact ⟨0, Nat.zero_le _, rfl, fun q hq => absurd hq (Nat.not_lt_zero _)⟩
  case round =>
    obtain ⟨k, hk, rfl, A⟩ := hrel
    by_cases hlt : k < n
    · obtain ⟨x, hx⟩ : ∃ x, x = L.getD k 0 := ⟨_, rfl⟩
      have hcx : w.cell? ⟨b, o + k, none⟩ = some (.int .u8 x) := by rw [hx]; exact hc _ hlt
      have HX : Hid (x = L.getD k 0) := hx
      clear hx hc
      cases hb : blankB x with
      | true =>
        go_wp2_with (first | (go_at_call 6; refine (blank6 _ _).mono ?_; rintro e w' ⟨rfl, rfl⟩))
        go_round
        case rel =>
          refine ⟨k + 1, by omega, by go_num, fun q hq => ?_⟩
          by_cases e : q = k
          · subst e; rw [← HX.out]; exact hb
          · exact A.out q (by omega)
        case measure => simp [intOf]; omega
      | false =>
        have HE : Hid (allBlank L = false) := allBlank_no (k := k) (by rw [Hn.out]; exact hlt) (by rw [← HX.out]; exact hb)
        go_wp2_with (first | (go_at_call 6; refine (blank6 _ _).mono ?_; rintro e w' ⟨rfl, rfl⟩))
        go_ret
        exact ⟨by rw [HE.out]; rfl, rfl⟩
    · obtain rfl : k = n := by omega
      have HE : Hid (allBlank L = true) := allBlank_yes Hn A
      clear A hc
      go_wp2_with (first | (go_at_call 6; refine (blank6 _ _).mono ?_; rintro e w' ⟨rfl, rfl⟩))
      go_ret
      exact ⟨by rw [HE.out]; rfl, rfl⟩
end Go.Proofs.Qxb6605764aMods
