import Derived.Test.Qxb6608806aModsLeaf
import Derived.Deep.MidRow
namespace Go.Proofs.Qxb6608806aMods
open Go.RowKit
set_option linter.unusedVariables false
set_option maxRecDepth 100000

/-- The cells of an entry that bears a name and nothing else. -/
def entC (s : ByteArray) : List Value := [.string ByteArray.empty, .int .u8 0, .int .u8 0, .int .u8 0, .int .u8 0, .int .u8 0, .int .u8 0, .int .u8 0, .int .u8 0, .int .u8 0, .int .u8 0, .int .u8 0, .int .u8 0, .int .u8 0, .int .u8 0, .int .u8 0, .int .u8 0, .int .u8 0, .int .u8 0, .int .u8 0, .int .u8 0, .int .u8 0, .int .u8 0, .int .u8 0, .int .u8 0, .int .u8 0, .int .u8 0, .int .u8 0, .int .u8 0, .int .u8 0, .int .u8 0, .int .u8 0, .int .u8 0, .int .i64 0, .string s, .int .u64 0, .int .u64 0, .int .u32 0, .int .i64 0, .int .i64 0, .int .i64 0, .bool false, .slice none 0 0, .pointer none]

theorem entC_len (s : ByteArray) : (entC s).length = 44 := rfl

theorem size37 : (Trym.prog.info? 37).map (·.size) = some 44 := by kernel_rfl
theorem entC_one (s : ByteArray) : ∀ v ∈ entC s, v.oneCell' = true := by
  intro v hv
  simp only [entC, List.mem_cons, List.not_mem_nil, or_false] at hv
  rcases hv with h | h | h | h | h | h | h | h | h | h | h | h | h | h | h | h | h | h | h | h | h | h | h | h | h | h | h | h | h | h | h | h | h | h | h | h | h | h | h | h | h | h | h | h <;> subst h <;> rfl

/-- A new block of zeros: its cells are there. -/
theorem there_new (w : World) (cs : Array Value) (t n : Nat) (hn : n ≤ cs.size) : (w.alloc (.cells cs t)).there w.heap.size 0 n := by
  intro j hj
  refine ⟨?_, by simp⟩
  simp
  omega

theorem results_cell {fn : Func} {p : Tmp} {ty : TypeId} (h : fn.results = #[.cell p ty]) (tmps : Array Value) (P : Program) (w : World) :
    (results fn tmps).run P w = ((asAddr (tmps.getD p undef)).run P w).andThen fun a w₁ => (loadVar ty a).run P w₁ := by
  simp only [results, h]
  simp [Sem.run_bind, Result.andThen]

theorem below_setCells {B : Nat} {a w : World} (h : Below B a w) {b o : Nat} (hb : B ≤ b) (vs : List Value) : Below B a (w.setCells b o vs) := by
  induction vs generalizing w o with
  | nil => exact h
  | cons v vs ih => exact ih (h.setCell (p := ⟨b, o, none⟩) hb v)

/-- The store of a whole entry into a new block, its world behind a letter. -/
theorem wpList_store_ent {ops : Array Oper} {rest : List Oper} {op : Oper} {a : Act} {w : World} {Q : Exit → Act → World → Prop} (hgd : op.guard = none) (x y : Operand) (ho : op.op = .store 37 x y)
    (b : Nat) (s : ByteArray) (hx : a.eval x = .pointer (some ⟨b, 0, none⟩)) (hy : a.eval y = .agg (entC s).toArray) (ht : w.there b 0 44)
    (h : ∀ w', w'.rangeAt b 0 (entC s) → (∀ B u, B ≤ b → Below B u w → Below B u w') → wpList Trym.prog ops Q rest (a.put op.dst undef) w') : wpList Trym.prog ops Q (op :: rest) a w :=
  wpList_store_mid hgd 37 x y ho b 0 (entC s).toArray hx hy ht (by rw [size37]; rfl) (all_oneCell_toArray (entC_one s))
    (h _ (World.rangeAt_setCells_same _ _ _ _ ht) (fun B u hB hbe => below_setCells hbe hB _))

set_option maxHeartbeats 1000000 in
theorem named7 (s : ByteArray) (w : World) : Calls Trym.prog 7 #[.string s] w fun e w' => e = .returned (.agg (entC s).toArray) ∧ Below w.heap.size w w' := by
  go_enter Trym.func7, Trym.ntmps7
  go_wp2_with (refine wpList_store_ent rfl _ _ rfl w.heap.size s rfl rfl (there_new w _ _ _ (by simp)) ?_)
  intro w' hr hb
  have HB : Hid (Below w.heap.size w w') := hb _ _ (Nat.le_refl _) ((Below.refl _ _).alloc (Nat.le_refl _) _)
  have HR : Hid (w'.rangeAt w.heap.size 0 (entC s)) := hr
  clear hr hb
  go_wp2
  refine bodyPost_ret (v := .agg (entC s).toArray) ?_ rfl ⟨rfl, HB.out⟩
  rw [results_cell (p := 2) (ty := 37) rfl]
  have hl := run_loadVar_mid (P := Trym.prog) w' w.heap.size 0 37 (entC s) _ HR.out Trym.underlying37 rfl (by rw [size37]; rfl)
  exact hl
end Go.Proofs.Qxb6608806aMods
