import Derived.Test.Qxb6608806aModsBytes
import Derived.Lib.Builder
namespace Go.Proofs.Qxb6608806aMods
open Go.RowKit
set_option linter.unusedVariables false
set_option maxRecDepth 100000

def YesPost (w : World) (e : Ending) (w' : World) : Prop := e = .returned (.bool true) ∧ Below w.heap.size w w'

/-- The cells of the first k entries. -/
def flat (N : List ByteArray) : Nat → List Value
  | 0 => []
  | k + 1 => flat N k ++ entC (nm N k)

theorem flat_len (N : List ByteArray) (k : Nat) : (flat N k).length = k * 44 := by
  induction k with
  | zero => rfl
  | succ k ih => simp only [flat, List.length_append, ih, entC_len]; omega

theorem flat_name (N : List ByteArray) (k i : Nat) (hi : i < k) : (flat N k)[i * 44 + 34]? = some (.string (nm N i)) := by
  induction k with
  | zero => omega
  | succ k ih =>
    simp only [flat]
    by_cases e : i = k
    · subst e
      rw [List.getElem?_append_right (by rw [flat_len]; omega), flat_len, show i * 44 + 34 - i * 44 = 34 by omega]
      rfl
    · rw [List.getElem?_append_left (by rw [flat_len]; omega)]
      exact ih (by omega)

theorem info37 : (Trym.prog.info? 37).map (fun i => (i.zero, i.size, i.bytes)) = some (some (.agg (entC ByteArray.empty).toArray), 44, 160) := by kernel_rfl

theorem ent_of_owns {w : World} {G n : Nat} {N : List ByteArray} (h : w.ownsRow G 37 44 (.slice (some ⟨G, 0, none⟩) n n) n (flat N n)) : EntAt w G n N := by
  intro i hi
  rw [h.cellAt (i * 44 + 34) (by omega)]
  exact flat_name N n i hi

theorem owns_lt {w : World} {G t k : Nat} {xs : List Value} {e sz : Nat} (h : w.ownsRow G e sz (.slice (some ⟨G, 0, none⟩) t k) t xs) (_ : t ≤ k) : G < w.heap.size := by
  rcases h.2 with ⟨h', _⟩ | ⟨g', cap', cur, h', _, hg, _⟩
  · cases h'
  · simp only [Value.slice.injEq, Option.some.injEq, Addr.mk.injEq, and_true, true_and] at h'
    obtain ⟨rfl, rfl⟩ := h'
    exact (Array.getElem?_eq_some_iff.1 hg).1

theorem owns_below {w w' : World} {G t k : Nat} {xs : List Value} {e sz B : Nat} (h : w.ownsRow G e sz (.slice (some ⟨G, 0, none⟩) t k) t xs) (hb : Below B w w') (hG : G < B) : w'.ownsRow G e sz (.slice (some ⟨G, 0, none⟩) t k) t xs := by
  refine ⟨h.1, ?_⟩
  rcases h.2 with h' | ⟨g', cap', cur, h', h2, hg, r⟩
  · exact .inl h'
  · have e1 := h'
    simp only [Value.slice.injEq, Option.some.injEq, Addr.mk.injEq, and_true, true_and] at e1
    obtain ⟨rfl, rfl⟩ := e1
    exact .inr ⟨_, _, cur, h', h2, (hb.block _ hG).trans hg, r⟩

theorem run_build_ent (s : ByteArray) (w : World) : (Instr.buildSlice 25 1 #[(0, .agg (entC s).toArray)]).run Trym.prog w = .ok (.slice (some ⟨w.heap.size, 0, none⟩) 1 1) (w.alloc (.cells (entC s).toArray 37)) := by
  kernel_rfl

theorem wpList_build_ent {ops : Array Oper} {rest : List Oper} {o : Oper} {a : Act} {w : World} {Q : Exit → Act → World → Prop} (hg : o.guard = none) (x : Operand) (hop : o.op = Op.buildSlice 25 1 #[(0, x)])
    (s : ByteArray) (hx : a.eval x = .agg (entC s).toArray)
    (hK : ∀ w', w'.heap.size = w.heap.size + 1 → Below w.heap.size w w' → (∀ j u, (entC s)[j]? = some u → w'.cell? ((⟨w.heap.size, 0, none⟩ : Addr).add j) = some u) → wpList Trym.prog ops Q rest (a.put o.dst (.slice (some ⟨w.heap.size, 0, none⟩) 1 1)) w') : wpList Trym.prog ops Q (o :: rest) a w := by
  refine wpList_plain hg fun K' hK' => ?_
  unfold Oper.wp
  simp only [execOp, hop, List.map_toArray, List.map_cons, List.map_nil, hx, Sem.run_bind, run_build_ent s w, Result.andThen_ok, Sem.run_pure]
  refine hK' _ _ (hK (w.alloc (.cells (entC s).toArray 37)) (by simp) ((Below.refl _ _).alloc (Nat.le_refl _) _) (fun j u hj => ?_))
  rw [Addr.add_lit]
  simp
  exact hj


theorem neq_same (a : Addr) (w : World) : (binOp .neq 40 (.pointer (some a)) (.pointer (some a))).run Trym.prog w = .ok (.bool false) w := by
  obtain ⟨i, hi, _⟩ := info_parts info37
  exact Lib.run_neq_ptr_same w a Trym.underlying40 hi

/-- What the look-ups know of memory: the entries, and that nothing that came in has turned. -/
structure St (w : World) (G n : Nat) (N : List ByteArray) (wx : World) : Prop where
  ent : EntAt wx G n N
  below : Below w.heap.size w wx
  lo : w.heap.size ≤ G
  hi : G < wx.heap.size

theorem St.frm {w wx wy : World} {G n p : Nat} {N : List ByteArray} (h : St w G n N wx) (f : Frm wx wy (fun k => k = p)) (hp : w.heap.size ≤ p) (hpg : p ≠ G) : St w G n N wy :=
  ⟨f.ent h.ent (fun e => hpg e.symm), h.below.trans (f.below h.below.size (fun k hk e => by omega)), h.lo, Nat.lt_of_lt_of_le h.hi f.size⟩
theorem St.alloc {w wx : World} {G n : Nat} {N : List ByteArray} (h : St w G n N wx) (o : Obj) : St w G n N (wx.alloc o) := by
  have f : Frm wx (wx.alloc o) (fun _ => False) := ⟨rfl, rfl, rfl, by simp, fun k hk _ => Below.heap_alloc _ _ _ hk⟩
  exact ⟨f.ent h.ent (fun e => e), h.below.alloc h.below.size o, h.lo, Nat.lt_of_lt_of_le h.hi f.size⟩
theorem St.drewN {w wx : World} {G n : Nat} {N : List ByteArray} (h : St w G n N wx) (q : Nat) : St w G n N (wx.drewN q) :=
  ⟨h.ent, ⟨h.below.os, h.below.tape, h.below.output, h.below.size, h.below.block⟩, h.lo, h.hi⟩

theorem Was.frm {w w' : World} {p g n k m : Nat} {A : Option Addr} (h : Was w p g n k m A) {q : Nat → Prop} (f : Frm w w' q) (hq : ¬ q p) : Was w' p g n k m A :=
  ⟨(f.cell (a := ⟨p, 0, none⟩) (lt_of_cell h.cell) hq).trans h.cell, (f.frozen (a := ⟨p, 0, none⟩) (lt_of_cell h.cell) hq).trans h.free, h.at_⟩
theorem Was.alloc {w : World} {p g n k m : Nat} {A : Option Addr} (h : Was w p g n k m A) (o : Obj) : Was (w.alloc o) p g n k m A :=
  h.frm (q := fun _ => False) ⟨rfl, rfl, rfl, by simp, fun k hk _ => Below.heap_alloc _ _ _ hk⟩ (fun e => e)
theorem Was.made (w : World) (g n k m : Nat) (A : Option Addr) (h : 0 < m → A = some ⟨g, k * 44, none⟩) : Was (w.alloc (.cells #[.slice A m m] 25)) w.heap.size g n k m A :=
  ⟨by simp, by simp, h⟩
theorem Was.drewN {w : World} {p g n k m : Nat} {A : Option Addr} (h : Was w p g n k m A) (q : Nat) : Was (w.drewN q) p g n k m A := ⟨h.cell, h.free, h.at_⟩

/-- What was dropped so far is below every look-up to come. -/
def Past (N M : List ByteArray) (k0 i j : Nat) : Prop := ∀ r, r < k0 → ∀ q, i ≤ q → q < j → lt (nm N r) (nm M q) = true

theorem past_le {N M : List ByteArray} {k0 i j n l : Nat} (h : Past N M k0 i j) (hi : i < j) (hk : k0 ≤ n) (hl : Lower N (nm M i) n l) : k0 ≤ l := by
  by_cases e : k0 ≤ l
  · exact e
  · have h1 := h l (by omega) i (Nat.le_refl _) hi
    have h2 := hl.hi l (Nat.le_refl _) (by omega)
    rw [h1] at h2
    cases h2

theorem past_step {N M : List ByteArray} {i j n l : Nat} (hs : Rises M) (hM : M.length = j) (hi : i < j) (hl : Lower N (nm M i) n l) : Past N M l (i + 1) j := by
  intro r hr q h1 h2
  have h3 := hl.lo r hr
  rcases lt_split (nm M q) h3 with h | h
  · exact h
  · have := hs.mono (i := i) (j := q) (by omega) (by omega)
    rw [this] at h
    cases h
end Go.Proofs.Qxb6608806aMods
