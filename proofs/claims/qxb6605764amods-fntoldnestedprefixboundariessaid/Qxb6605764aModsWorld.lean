import Derived.Test.Qxb6605764aModsMake
import Derived.Test.Qxb6605764aModsPlain
namespace Go.Proofs.Qxb6605764aMods
open Go.RowKit
set_option linter.unusedVariables false

/-- The world that the first law lays its steps and its line in. -/
def wOne (w : World) (x0 x2 : Option Addr) (lb lt ll G : Nat) : World :=
  (((((((w.alloc (.cells #[.int .i32 1, .int .i32 1, .pointer none, .int .i64 0, .int .i64 (-1)] 31)).alloc
    (.cells #[.slice none 0 0, .slice none 0 0, .slice none 0 0] 44)).alloc
    (.cells #[.int .i32 2, .int .i32 2, .pointer (some ⟨w.heap.size + 1, 0, none⟩), .int .i64 0, .int .i64 (-1)] 31)).alloc
    (.cells #[.slice x0 lb lb, .slice none 0 0, .slice x2 ll ll] 44)).alloc
    (.cells #[.int .i32 3, .int .i32 (2 + lb), .pointer (some ⟨w.heap.size + 1 + 1 + 1, 0, none⟩), .int .i64 lb, .int .i64 (-1)] 31)).alloc
    (.cells #[.int .i32 1, .int .i32 1, .pointer none, .int .i64 0, .int .i64 (-1), .int .i32 2, .int .i32 2, .pointer (some ⟨w.heap.size + 1, 0, none⟩), .int .i64 0, .int .i64 (-1), .int .i32 3, .int .i32 (2 + lb), .pointer (some ⟨w.heap.size + 1 + 1 + 1, 0, none⟩), .int .i64 lb, .int .i64 (-1)] 31)).alloc
    (.cells #[.pointer none, .int .i32 0, .int .i32 0, .int .i32 0, .slice (some ⟨G, 0, none⟩) (2 + lb + lt) (2 + lb + lt)] 47))

theorem wOne_below (w : World) (x0 x2 : Option Addr) (lb lt ll G : Nat) : Below w.heap.size w (wOne w x0 x2 lb lt ll G) := by
  unfold wOne
  exact (((((((Below.refl _ _).alloc (Nat.le_refl _) _).alloc (by simp) _).alloc (by simp; omega) _).alloc (by simp; omega) _).alloc (by simp; omega) _).alloc (by simp; omega) _).alloc (by simp; omega) _

theorem size_al (w : World) (o : Obj) : (w.alloc o).heap.size = w.heap.size + 1 := by simp
theorem cell_old (w : World) (ob : Obj) (b o : Nat) (hb : b < w.heap.size) : (w.alloc ob).cell? ⟨b, o, none⟩ = w.cell? ⟨b, o, none⟩ :=
  ((Below.refl w.heap.size w).alloc (Nat.le_refl _) ob).cell (p := ⟨b, o, none⟩) hb
theorem cell_top (w : World) (cs : Array Value) (t b o : Nat) (hb : b = w.heap.size) : (w.alloc (.cells cs t)).cell? ⟨b, o, none⟩ = cs[o]? := by
  subst hb
  show (match (w.heap.push (.cells cs t))[w.heap.size]? with | some (.cells c _ _) => if (none : Option Nat).isSome then none else c[o]? | _ => none) = _
  simp

theorem sorted_nil : Sorted [] := fun i hi => absurd hi (by simp)

theorem one_steps (w : World) (x0 x2 : Option Addr) (lb lt ll G : Nat) (P L : List Int) (hP : P.length = 2 + lb) (hlb : lb ≤ 262144) (hL : L.length = ll) (hll : ll ≤ 65536) (hs : Sorted L) (hR : Row .i64 w x2 L) :
    StepsAt (wOne w x0 x2 lb lt ll G) (w.heap.size + 1 + 1 + 1 + 1 + 1) [(1, []), (2, []), ((P.length : Int), L)] := by
  have hR' : Row .i64 (wOne w x0 x2 lb lt ll G) x2 L := hR.below (wOne_below w x0 x2 lb lt ll G)
  have eP : ((P.length : Nat) : Int) = 2 + (lb : Int) := by omega
  refine ⟨?_, ?_, ?_, ?_⟩
  · intro k hk
    match k, hk with
    | 0, _ =>
      refine ⟨?_, ?_, .inl ⟨?_, rfl⟩⟩
      all_goals
        unfold wOne
        repeat rw [cell_old _ _ _ _ (by simp only [size_al]; omega)]
        rw [cell_top _ _ _ _ _ (by simp only [size_al])]
        simp
    | 1, _ =>
      refine ⟨?_, ?_, .inr ⟨w.heap.size + 1, none, 0, 0, none, 0, ?_, ?_, ?_, ?_, .inl rfl⟩⟩
      all_goals
        unfold wOne
        repeat rw [cell_old _ _ _ _ (by simp only [size_al]; omega)]
        rw [cell_top _ _ _ _ _ (by simp only [size_al])]
        simp
    | 2, _ =>
      refine ⟨?_, ?_, .inr ⟨w.heap.size + 1 + 1 + 1, x0, lb, lb, x2, ll, ?_, ?_, ?_, ?_, hR'⟩⟩
      all_goals
        unfold wOne
        repeat rw [cell_old _ _ _ _ (by simp only [size_al]; omega)]
        rw [cell_top _ _ _ _ _ (by simp only [size_al])]
        simp [hP, hL]
    | k + 3, h => exact absurd h (by simp only [List.length_cons, List.length_nil]; omega)
  · intro k hk
    match k, hk with
    | 0, _ => exact sorted_nil
    | 1, _ => exact sorted_nil
    | 2, _ => exact hs
    | k + 3, h => exact absurd h (by simp only [List.length_cons, List.length_nil]; omega)
  · intro k hk
    match k, hk with
    | 0, _ => simp
    | 1, _ => simp
    | 2, _ => simp; omega
    | k + 3, h => exact absurd h (by simp only [List.length_cons, List.length_nil]; omega)
  · intro k hk
    match k, hk with
    | 0, _ => simp
    | 1, _ => simp
    | 2, _ => simp; omega
    | k + 3, h => exact absurd h (by simp only [List.length_cons, List.length_nil]; omega)

theorem one_line (w : World) (x0 x2 : Option Addr) (lb lt ll G : Nat) (ln : List Int) (hln : ln.length = 2 + lb + lt) (hc : ∀ i, i < 2 + lb + lt → w.cell? ⟨G, i, none⟩ = some (.int .u8 (ln.getD i 0))) :
    LineAt (wOne w x0 x2 lb lt ll G) (w.heap.size + 1 + 1 + 1 + 1 + 1 + 1) G (2 + lb + lt) ln := by
  refine ⟨?_, ?_, fun i hi => ?_⟩
  · unfold wOne
    rw [cell_top _ _ _ _ _ (by simp only [size_al])]
    simp
  · unfold wOne
    rw [cell_top _ _ _ _ _ (by simp only [size_al])]
    simp [hln]
  rw [(wOne_below w x0 x2 lb lt ll G).cell (lt_of_cell (hc i (by omega)))]
  exact hc i (by omega)
end Go.Proofs.Qxb6605764aMods
