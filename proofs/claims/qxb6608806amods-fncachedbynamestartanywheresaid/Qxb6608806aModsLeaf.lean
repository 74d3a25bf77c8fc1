import Derived.Test.Qxb6608806aModsProg
import Derived.WalkKit
import Derived.WalkSpells
import Derived.WalkLawsBesides
import Derived.Deep.QuietTactic
import Derived.BigQuiet
import Derived.Deep.LoopGhost
namespace Go.Proofs.Qxb6608806aMods
open Go.RowKit
set_option linter.unusedVariables false

/-- The order on strings. -/
def lt (a b : ByteArray) : Bool := Op.bytesLess a.toList b.toList
/-- Sameness of strings. -/
def same (a b : ByteArray) : Bool := a.toList == b.toList

theorem less_split : ∀ (c b a : List UInt8), Op.bytesLess c a = true → Op.bytesLess c b = true ∨ Op.bytesLess b a = true
  | _, _, [] => by simp [Op.bytesLess]
  | [], [], _ :: _ => by simp [Op.bytesLess]
  | [], _ :: _, _ :: _ => by simp [Op.bytesLess]
  | _ :: _, [], _ :: _ => by simp [Op.bytesLess]
  | x :: c, y :: b, z :: a => by
    have ih := less_split c b a
    simp only [Op.bytesLess, Bool.or_eq_true, Bool.and_eq_true, decide_eq_true_eq, beq_iff_eq]
    intro h
    rcases h with h | ⟨rfl, h⟩
    · by_cases h1 : x < y
      · exact .inl (.inl h1)
      · by_cases h2 : x = y
        · subst h2; exact .inr (.inl h)
        · refine .inr (.inl ?_)
          rw [UInt8.lt_iff_toNat_lt] at h h1 ⊢
          have : x.toNat ≠ y.toNat := fun e => h2 (UInt8.toNat_inj.1 e)
          omega
    · rcases ih h with h' | h'
      · by_cases h1 : x < y
        · exact .inl (.inl h1)
        · by_cases h2 : x = y
          · exact .inl (.inr ⟨h2, h'⟩)
          · refine .inr (.inl ?_)
            rw [UInt8.lt_iff_toNat_lt] at h1 ⊢
            have : x.toNat ≠ y.toNat := fun e => h2 (UInt8.toNat_inj.1 e)
            omega
      · by_cases h1 : x < y
        · exact .inl (.inl h1)
        · by_cases h2 : x = y
          · exact .inr (.inr ⟨h2.symm, h'⟩)
          · refine .inr (.inl ?_)
            rw [UInt8.lt_iff_toNat_lt] at h1 ⊢
            have : x.toNat ≠ y.toNat := fun e => h2 (UInt8.toNat_inj.1 e)
            omega

theorem lt_split {c a : ByteArray} (b : ByteArray) (h : lt c a = true) : lt c b = true ∨ lt b a = true := less_split _ _ _ h

def nm (N : List ByteArray) (i : Nat) : ByteArray := N.getD i ByteArray.empty

/-- The names rise. -/
def Rises (N : List ByteArray) : Prop := ∀ j, 1 ≤ j → j < N.length → lt (nm N j) (nm N (j - 1)) = false

theorem Rises.mono {N : List ByteArray} (h : Rises N) {i j : Nat} (hij : i ≤ j) (hj : j < N.length) : lt (nm N j) (nm N i) = false := by
  induction j with
  | zero =>
    obtain rfl : i = 0 := by omega
    cases hl : lt (nm N 0) (nm N 0) with
    | false => rfl
    | true =>
      exfalso
      have : ∀ l : List UInt8, Op.bytesLess l l = false := by
        intro l
        induction l with
        | nil => rfl
        | cons x l ih => simp [Op.bytesLess, ih]
      unfold lt at hl
      rw [this] at hl
      cases hl
  | succ j ih =>
    by_cases e : i = j + 1
    · subst e
      cases hl : lt (nm N (j + 1)) (nm N (j + 1)) with
      | false => rfl
      | true =>
        exfalso
        have : ∀ l : List UInt8, Op.bytesLess l l = false := by
          intro l
          induction l with
          | nil => rfl
          | cons x l ih => simp [Op.bytesLess, ih]
        unfold lt at hl
        rw [this] at hl
        cases hl
    · have h1 := ih (by omega) (by omega)
      have h2 := h (j + 1) (by omega) hj
      simp only [Nat.add_sub_cancel] at h2
      cases hl : lt (nm N (j + 1)) (nm N i) with
      | false => rfl
      | true =>
        rcases lt_split (nm N j) hl with h | h
        · rw [h2] at h; cases h
        · rw [h1] at h; cases h

/-- A row of strings. -/
structure StrRow (w : World) (b o n : Nat) (N : List ByteArray) : Prop where
  len : N.length = n
  blk : b < w.heap.size
  cell : ∀ i, i < n → w.cell? ⟨b, o + i, none⟩ = some (.string (nm N i))
  sz : ∀ i, i < n → (nm N i).size ≤ maxLen

theorem StrRow.below {w w' : World} {b o n : Nat} {N : List ByteArray} (h : StrRow w b o n N) (hb : Below w.heap.size w w') : StrRow w' b o n N :=
  ⟨h.len, Nat.lt_of_lt_of_le h.blk hb.size, fun i hi => by rw [hb.cell (p := ⟨b, o + i, none⟩) h.blk]; exact h.cell i hi, h.sz⟩
theorem StrRow.drewN {w : World} {b o n : Nat} {N : List ByteArray} (h : StrRow w b o n N) (q : Nat) : StrRow (w.drewN q) b o n N := ⟨h.len, h.blk, h.cell, h.sz⟩

theorem rises6_nil (a : Option Addr) (c : Nat) (w : World) :
    Calls Trym.prog 6 #[.slice a 0 c] w fun e w' => e = .returned (.bool true) ∧ w' = w := by
  go_enter Trym.func6, Trym.ntmps6
  go_wp2
  refine wp_loop_rounds 1 ?_
  rw [rounds_succ]
  go_wp2
  go_ret
  exact ⟨rfl, rfl⟩

def RisesPost (N : List ByteArray) (w : World) (e : Ending) (w' : World) : Prop := ∃ q : Bool, e = .returned (.bool q) ∧ (q = true → Rises N) ∧ ∃ m, w' = w.drewN m

set_option maxHeartbeats 1000000 in
theorem rises6_row (b o n c : Nat) (N : List ByteArray) (w : World) (h0 : 0 < n) (hm : n ≤ 1048576) (hr : Hid (StrRow w b o n N)) :
    Calls Trym.prog 6 #[.slice (some ⟨b, o, none⟩) n c] w (RisesPost N w) := by
  go_enter Trym.func6, Trym.ntmps6
  go_wp2
  go_loopw [3] (fun i wr => ∃ k : Nat, 1 ≤ k ∧ k ≤ n ∧ i = .int .i64 k ∧ (∃ m, wr = w.drewN m) ∧ Hid (∀ j, 1 ≤ j → j < k → lt (nm N j) (nm N (j - 1)) = false)) (fun i _ => n - (intOf i).toNat)
  case atStart => exact ⟨1, Nat.le_refl _, h0, rfl, ⟨0, rfl⟩, fun j h1 h2 => by omega⟩
  case round =>
    obtain ⟨k, hk1, hk, rfl, ⟨m, rfl⟩, hs⟩ := hrel
    by_cases hlt : k < n
    · have hcx := hr.out.cell k hlt
      have hcy := hr.out.cell (k - 1) (by omega)
      have hz1 : (0 : Int) ≤ (k : Int) := by omega
      have hz2 : (k : Int) < (n : Int) := by omega
      obtain ⟨x, hx⟩ : ∃ x, x = nm N k := ⟨_, rfl⟩
      obtain ⟨y, hy⟩ : ∃ y, y = nm N (k - 1) := ⟨_, rfl⟩
      rw [← hx] at hcx
      rw [← hy] at hcy
      have HX : Hid (x = nm N k ∧ y = nm N (k - 1)) := ⟨hx, hy⟩
      clear hx hy
      cases hl : Op.bytesLess x.toList y.toList with
      | true =>
        go_wp2
        go_quiet (fail)
        go_wp2
        go_ret
        exact ⟨false, rfl, (fun h => by cases h), ⟨_, World.drewN_drewN _ _ _⟩⟩
      | false =>
        go_wp2
        go_quiet (fail)
        go_wp2
        go_roundw
        case rel =>
          refine ⟨k + 1, by omega, by omega, by go_num, ⟨_, rfl⟩, fun j h1 h2 => ?_⟩
          by_cases e : j = k
          · subst e; rw [← HX.out.1, ← HX.out.2]; exact hl
          · exact hs.out j h1 (by omega)
        case measure => simp [intOf]; omega
    · go_wp2
      go_ret
      refine ⟨true, rfl, fun _ j h1 h2 => ?_, ⟨_, rfl⟩⟩
      rw [hr.out.len] at h2
      exact hs.out j h1 (by omega)

/-- The number of names below q. -/
structure Lower (N : List ByteArray) (q : ByteArray) (n l : Nat) : Prop where
  le : l ≤ n
  lo : ∀ i, i < l → lt (nm N i) q = true
  hi : ∀ i, l ≤ i → i < n → lt (nm N i) q = false

def LowPost (N : List ByteArray) (q : ByteArray) (n : Nat) (w : World) (e : Ending) (w' : World) : Prop := ∃ l : Nat, e = .returned (.int .i64 l) ∧ Lower N q n l ∧ w' = w

theorem low8_nil (a : Option Addr) (c : Nat) (N : List ByteArray) (q : ByteArray) (w : World) :
    Calls Trym.prog 8 #[.slice a 0 c, .string q] w (LowPost N q 0 w) := by
  go_enter Trym.func8, Trym.ntmps8
  go_wp2
  refine wp_loop_rounds 1 ?_
  rw [rounds_succ]
  go_wp2
  go_ret
  exact ⟨0, rfl, ⟨Nat.le_refl _, (fun i hi => by omega), (fun i h1 h2 => by omega)⟩, rfl⟩

set_option maxHeartbeats 1000000 in
theorem low8_row (b o n c : Nat) (N : List ByteArray) (q : ByteArray) (w : World) (hm : n ≤ 1048576) (hr : Hid (StrRow w b o n N)) (hs : Hid (Rises N)) :
    Calls Trym.prog 8 #[.slice (some ⟨b, o, none⟩) n c, .string q] w (LowPost N q n w) := by
  go_enter Trym.func8, Trym.ntmps8
  go_wp2
  go_loop [5, 6] (fun i j => ∃ l h : Nat, l ≤ h ∧ h ≤ n ∧ i = .int .i64 l ∧ j = .int .i64 h ∧ Hid (∀ i, i < l → lt (nm N i) q = true) ∧ Hid (∀ i, h ≤ i → i < n → lt (nm N i) q = false)) (fun i j => ((intOf j).toNat - (intOf i).toNat))
  case atStart => exact ⟨0, n, Nat.zero_le _, Nat.le_refl _, rfl, rfl, fun i hi => absurd hi (Nat.not_lt_zero _), fun i h1 h2 => by omega⟩
  case round =>
    obtain ⟨l, h, hlh, hhn, rfl, rfl, A, B⟩ := hrel
    by_cases hlt : l < h
    · obtain ⟨x, hx⟩ : ∃ x, x = nm N (l + (h - l) / 2) := ⟨_, rfl⟩
      have hcx : w.cell? ⟨b, o + (l + (h - l) / 2), none⟩ = some (.string x) := by rw [hx]; exact hr.out.cell _ (by omega)
      have HX : Hid (x = nm N (l + (h - l) / 2)) := hx
      clear hx
      cases hl : Op.bytesLess x.toList q.toList with
      | true =>
        go_wp2
        go_round
        case rel =>
          refine ⟨l + (h - l) / 2 + 1, h, by omega, hhn, by go_num, rfl, fun i hi => ?_, B⟩
          have h1 := hs.out.mono (i := i) (j := l + (h - l) / 2) (by omega) (by rw [hr.out.len]; omega)
          rw [← HX.out] at h1
          rcases lt_split (nm N i) (show lt x q = true from hl) with h2 | h2
          · rw [h1] at h2; cases h2
          · exact h2
        case measure => simp [intOf]; omega
      | false =>
        go_wp2
        go_round
        case rel =>
          refine ⟨l, l + (h - l) / 2, by omega, by omega, rfl, by go_num, A, fun i h1 h2 => ?_⟩
          have h3 := hs.out.mono (i := l + (h - l) / 2) (j := i) (by omega) (by rw [hr.out.len]; omega)
          rw [← HX.out] at h3
          cases h4 : lt (nm N i) q with
          | false => rfl
          | true =>
            rcases lt_split x h4 with h5 | h5
            · rw [h3] at h5; cases h5
            · rw [show lt x q = false from hl] at h5; cases h5
        case measure => simp [intOf]; omega
    · obtain rfl : l = h := by omega
      go_wp2
      go_ret
      exact ⟨l, rfl, ⟨hhn, A.out, B.out⟩, rfl⟩
end Go.Proofs.Qxb6608806aMods
