import Derived.Test.Qxb6605764aModsScan
import Derived.WalkSpells
namespace Go.Proofs.Qxb6605764aMods
open Go.RowKit
set_option linter.unusedVariables false

theorem info5 : (Trym.prog.info? 5).map (fun i => (i.zero, i.size, i.bytes)) = some (some (.int .u8 0), 1, 1) := by kernel_rfl
theorem info3 : (Trym.prog.info? 3).map (fun i => (i.zero, i.size, i.bytes)) = some (some (.int .i64 0), 1, 8) := by kernel_rfl

/-- What a copy comes to: a slice of the same numbers in memory of its own. -/
def ClonePost (k : IntKind) (L : List Int) (w : World) (e : Ending) (w' : World) : Prop :=
  ∃ a', e = .returned (.slice a' L.length L.length) ∧ Row k w' a' L ∧ Below w.heap.size w w'

theorem clone8_nil (w : World) : Calls Trym.prog 8 #[.slice none 0 0] w (ClonePost .u8 [] w) := by
  have q := fun w => Lib.run_eql_slice_nil (P := Trym.prog) w 22 5 none 0 0 0 0 Trym.underlying22
  go_enter Trym.func8, Trym.ntmps8
  go_wp2
  go_ret
  exact ⟨none, rfl, .inl rfl, Below.refl _ _⟩

theorem row_of_clone {k : IntKind} {L : List Int} {w wr : World} {b t n : Nat} (hn : Hid (L.length = n)) (h : wr.rowIs b t n (fun j => if j < n then .int k (L.getD j 0) else .int k 0)) : Row k wr (some ⟨b, 0, none⟩) L := by
  refine .inr ⟨b, 0, rfl, fun i hi => ?_⟩
  have hi' : i < n := by rw [← hn.out]; exact hi
  have := h.cell hi'
  simp only [hi', if_true] at this
  simpa using this

set_option maxHeartbeats 1000000 in
theorem clone8_row (x : Addr) (c : Nat) (L : List Int) (w : World) (hm : L.length ≤ 1048576)
    (hR : Row .u8 w (some x) L) (hB : Hid (L = [] ∨ x.block < w.heap.size)) :
    Calls Trym.prog 8 #[.slice (some x) L.length c] w (ClonePost .u8 L w) := by
  have q := fun w n => Lib.run_eql_slice_nil (P := Trym.prog) w 22 5 (some x) n c 0 0 Trym.underlying22
  unfold ClonePost
  have HR : Hid (Row .u8 w (some x) L) := hR
  clear hR
  have HD : Hid (∀ e w', (∃ a', e = .returned (.slice a' L.length L.length) ∧ Row .u8 w' a' L ∧ Below w.heap.size w w') → ClonePost .u8 L w e w') := fun _ _ h => h
  show Calls _ _ _ _ (ClonePost .u8 L w)
  generalize hn : L.length = n at *
  have Hn : Hid (L.length = n) := hn
  clear hn
  have hmk := run_make_row' (P := Trym.prog) 22 5 (.int .u8 0) 1 Trym.underlying22 info5 rfl .i64 .i64 n (by omega) (by omega)
  go_enter Trym.func8, Trym.ntmps8
  go_wp2
  go_loopw [4] (fun i wr => ∃ k : Nat, k ≤ n ∧ i = .int .i64 k ∧ wr.rowIs w.heap.size 5 n (fun j => if j < k then .int .u8 (L.getD j 0) else .int .u8 0) ∧ Below w.heap.size w wr) (fun i _ => n - (intOf i).toNat)
  case atStart => exact ⟨0, Nat.zero_le _, rfl, (World.rowIs_made w (.int .u8 0) n 5).congr (fun i hi => by simp), (Below.refl _ _).alloc (Nat.le_refl _) _⟩
  case round =>
    obtain ⟨k, hk, rfl, hrow, hb⟩ := hrel
    clear hmk q
    by_cases hlt : k < n
    · rcases HR.out with hnil | ⟨b, o, hx, hc⟩
      · have := Hn.out; rw [hnil] at this; simp at this; omega
      obtain rfl := Option.some.inj hx
      have hbl : b < w.heap.size := by
        rcases hB.out with h | h
        · have := Hn.out; rw [h] at this; simp at this; omega
        · exact h
      obtain ⟨y, hy⟩ : ∃ y, y = L.getD k 0 := ⟨_, rfl⟩
      have hcx : wr.cell? ⟨b, o + k, none⟩ = some (.int .u8 y) := by rw [hy, hb.cell (p := ⟨b, o + k, none⟩) hbl]; exact hc k (by rw [Hn.out]; exact hlt)
      have HY : Hid (y = L.getD k 0) := hy
      have hcw : wr.cell? ⟨w.heap.size, k, none⟩ = some (.int .u8 0) := by rw [hrow.cell hlt]; simp
      have hfw : wr.frozen? ⟨w.heap.size, k, none⟩ = false := hrow.frozen k
      have HROW : Hid (wr.rowIs w.heap.size 5 n (fun j => if j < k then .int .u8 (L.getD j 0) else .int .u8 0)) := hrow
      clear hy hc hrow hx
      go_wp2
      go_roundw
      case rel =>
        refine ⟨k + 1, by omega, by go_num, (HROW.out.set k (.int .u8 y)).congr (fun i hi => ?_), hb.setCell (by simp) _⟩
        by_cases e : i = k
        · subst e; simp [HY.out]
        · by_cases e2 : i < k
          · simp [e, e2, show i < k + 1 by omega]
          · simp [e, e2, show ¬ i < k + 1 by omega]
      case measure => simp [intOf]; omega
    · obtain rfl : k = n := by omega
      go_wp2
      go_ret
      exact HD.out _ _ ⟨_, rfl, row_of_clone (w := w) Hn hrow, hb⟩
theorem clone9_nil (w : World) : Calls Trym.prog 9 #[.slice none 0 0] w (ClonePost .i64 [] w) := by
  have q := fun w => Lib.run_eql_slice_nil (P := Trym.prog) w 23 3 none 0 0 0 0 Trym.underlying23
  go_enter Trym.func9, Trym.ntmps9
  go_wp2
  go_ret
  exact ⟨none, rfl, .inl rfl, Below.refl _ _⟩

set_option maxHeartbeats 1000000 in
theorem clone9_row (x : Addr) (c : Nat) (L : List Int) (w : World) (hm : L.length ≤ 1048576)
    (hR : Row .i64 w (some x) L) (hB : Hid (L = [] ∨ x.block < w.heap.size)) :
    Calls Trym.prog 9 #[.slice (some x) L.length c] w (ClonePost .i64 L w) := by
  have q := fun w n => Lib.run_eql_slice_nil (P := Trym.prog) w 23 3 (some x) n c 0 0 Trym.underlying23
  unfold ClonePost
  have HR : Hid (Row .i64 w (some x) L) := hR
  clear hR
  have HD : Hid (∀ e w', (∃ a', e = .returned (.slice a' L.length L.length) ∧ Row .i64 w' a' L ∧ Below w.heap.size w w') → ClonePost .i64 L w e w') := fun _ _ h => h
  show Calls _ _ _ _ (ClonePost .i64 L w)
  generalize hn : L.length = n at *
  have Hn : Hid (L.length = n) := hn
  clear hn
  have hmk := run_make_row' (P := Trym.prog) 23 3 (.int .i64 0) 8 Trym.underlying23 info3 rfl .i64 .i64 n (by omega) (by omega)
  go_enter Trym.func9, Trym.ntmps9
  go_wp2
  go_loopw [4] (fun i wr => ∃ k : Nat, k ≤ n ∧ i = .int .i64 k ∧ wr.rowIs w.heap.size 3 n (fun j => if j < k then .int .i64 (L.getD j 0) else .int .i64 0) ∧ Below w.heap.size w wr) (fun i _ => n - (intOf i).toNat)
  case atStart => exact ⟨0, Nat.zero_le _, rfl, (World.rowIs_made w (.int .i64 0) n 3).congr (fun i hi => by simp), (Below.refl _ _).alloc (Nat.le_refl _) _⟩
  case round =>
    obtain ⟨k, hk, rfl, hrow, hb⟩ := hrel
    clear hmk q
    by_cases hlt : k < n
    · rcases HR.out with hnil | ⟨b, o, hx, hc⟩
      · have := Hn.out; rw [hnil] at this; simp at this; omega
      obtain rfl := Option.some.inj hx
      have hbl : b < w.heap.size := by
        rcases hB.out with h | h
        · have := Hn.out; rw [h] at this; simp at this; omega
        · exact h
      obtain ⟨y, hy⟩ : ∃ y, y = L.getD k 0 := ⟨_, rfl⟩
      have hcx : wr.cell? ⟨b, o + k, none⟩ = some (.int .i64 y) := by rw [hy, hb.cell (p := ⟨b, o + k, none⟩) hbl]; exact hc k (by rw [Hn.out]; exact hlt)
      have HY : Hid (y = L.getD k 0) := hy
      have hcw : wr.cell? ⟨w.heap.size, k, none⟩ = some (.int .i64 0) := by rw [hrow.cell hlt]; simp
      have hfw : wr.frozen? ⟨w.heap.size, k, none⟩ = false := hrow.frozen k
      have HROW : Hid (wr.rowIs w.heap.size 3 n (fun j => if j < k then .int .i64 (L.getD j 0) else .int .i64 0)) := hrow
      clear hy hc hrow hx
      go_wp2
      go_roundw
      case rel =>
        refine ⟨k + 1, by omega, by go_num, (HROW.out.set k (.int .i64 y)).congr (fun i hi => ?_), hb.setCell (by simp) _⟩
        by_cases e : i = k
        · subst e; simp [HY.out]
        · by_cases e2 : i < k
          · simp [e, e2, show i < k + 1 by omega]
          · simp [e, e2, show ¬ i < k + 1 by omega]
      case measure => simp [intOf]; omega
    · obtain rfl : k = n := by omega
      go_wp2
      go_ret
      exact HD.out _ _ ⟨_, rfl, row_of_clone (w := w) Hn hrow, hb⟩
end Go.Proofs.Qxb6605764aMods
