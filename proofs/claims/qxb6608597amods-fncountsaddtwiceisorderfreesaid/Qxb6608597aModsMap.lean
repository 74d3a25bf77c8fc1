import Derived.Test.Qxb6608597aModsProg
import Derived.WalkKit
import Derived.WalkSpells
import Derived.Maps.OwnSet
import Derived.Deep.QuietTactic
import Derived.BigQuiet
namespace Go.Proofs.Qxb6608597aMods
open Go.RowKit Go.Maps
set_option linter.unusedVariables false

theorem law : Keyed Trym.prog 27 := int_keyed Trym.underlying27
theorem zero3 (w : World) : (zeroValue 3).run Trym.prog w = .ok (.int .i64 0) w := by kernel_rfl

/-- A number fits the 64 bits of an uint64. -/
def Fits (x : Int) : Prop := (Lit.int .u64 x).wf = true

def upd (f : Int → Option Int) (x v : Int) : Int → Option Int := fun y => if y = x then some v else f y

/-- Block b is a map of at most n entries: at key x what f says; s entries. -/
def MapIs (w : World) (b n : Nat) (f : Int → Option Int) (s : Nat) : Prop :=
  ∃ D : DataW Unit, w.ownsMap Trym.prog 27 (plainElem Trym.prog 3) b n D ∧
    (∀ x, Fits x → Maps.has D (.int .u64 x) = (f x).isSome ∧ D.atKey (.int .u64 x) (.lit (.int .i64 0)) = .lit (.int .i64 ((f x).getD 0))) ∧ Maps.size D = s

theorem MapIs.lt {w : World} {b n s : Nat} {f : Int → Option Int} (h : MapIs w b n f s) : b < w.heap.size := by
  obtain ⟨D, h, _⟩ := h; exact h.lt
theorem MapIs.of_block {w w' : World} {b n s : Nat} {f : Int → Option Int} (h : MapIs w b n f s) (e : w'.heap[b]? = w.heap[b]?) : MapIs w' b n f s := by
  obtain ⟨D, ⟨es, clock, hb, r⟩, q⟩ := h
  exact ⟨D, ⟨es, clock, e.trans hb, r⟩, q⟩
theorem MapIs.made (w : World) : MapIs (w.alloc (.map #[] 0)) w.heap.size 0 (fun _ => none) 0 :=
  ⟨.map [], World.ownsMap_made _ _ _ _, fun x _ => ⟨rfl, rfl⟩, rfl⟩
theorem MapIs.size_le {w : World} {b n s : Nat} {f : Int → Option Int} (h : MapIs w b n f s) : s ≤ n := by
  obtain ⟨D, h, _, rfl⟩ := h; exact h.size_le

/-- 'v, ok := m[x]'. -/
theorem MapIs.look {w : World} {b n s : Nat} {f : Int → Option Int} (h : MapIs w b n f s) {t : TypeId} (ht : Trym.prog.underlying t = some (.map 27 3)) {x : Int} (hx : Fits x) :
    (Instr.lookup t (.map (some b)) (.int .u64 x) true).run Trym.prog w = .ok (.tuple #[.int .i64 ((f x).getD 0), .bool (f x).isSome]) w := by
  obtain ⟨D, h, hq, _⟩ := h
  obtain ⟨v, ps, hrun, hv⟩ := h.look_ok law ht (zero3 w) (plainElem_int (H := Unit) Trym.underlying3 (a := 0) (by decide)) (keyOf_int_mk Trym.underlying27 hx)
  obtain ⟨c, rfl, hc, _⟩ := plainElem_int_inv Trym.underlying3 hv
  have h1 := (hq x hx).2
  have h2 := congrArg Prod.fst hc
  simp only at h2
  rw [h1] at h2
  have : (f x).getD 0 = c := by simpa using h2
  rw [hrun, (hq x hx).1, this]

/-- 'm[x]'. -/
theorem MapIs.look1 {w : World} {b n s : Nat} {f : Int → Option Int} (h : MapIs w b n f s) {t : TypeId} (ht : Trym.prog.underlying t = some (.map 27 3)) {x : Int} (hx : Fits x) :
    (Instr.lookup t (.map (some b)) (.int .u64 x) false).run Trym.prog w = .ok (.int .i64 ((f x).getD 0)) w := by
  obtain ⟨D, h, hq, _⟩ := h
  obtain ⟨c, hrun, hat, _⟩ := h.lookup_int law ht Trym.underlying3 (zero3 w) (keyOf_int_mk Trym.underlying27 hx)
  rw [(hq x hx).2] at hat
  have : (f x).getD 0 = c := by simpa using hat
  rw [hrun, this]

/-- 'len(m)'. -/
theorem MapIs.len {w : World} {b n s : Nat} {f : Int → Option Int} (h : MapIs w b n f s) {t : TypeId} (ht : Trym.prog.underlying t = some (.map 27 3)) (ty : TypeId) :
    (Builtin.len_ #[t] ty #[.map (some b)]).run Trym.prog w = .ok (.int .i64 s) w := by
  obtain ⟨D, h, _, rfl⟩ := h
  exact h.len ht ty

/-- 'm[x] = v'. -/
theorem MapIs.put {w : World} {b n s : Nat} {f : Int → Option Int} (h : MapIs w b n f s) (hn : n < 1099511627776) {t : TypeId} (ht : Trym.prog.underlying t = some (.map 27 3)) {x v : Int} (hx : Fits x) (hv : (Lit.int .i64 v).wf = true) :
    ∃ w', (Instr.mapUpdate t (.map (some b)) (.int .u64 x) (.int .i64 v)).run Trym.prog w = .ok () w' ∧ MapIs w' b (n + 1) (upd f x v) (if (f x).isSome then s else s + 1) ∧ w.grownBy w' (some b) := by
  obtain ⟨D, h, hq, rfl⟩ := h
  obtain ⟨w', hrun, hown, hg⟩ := h.update law ht (by unfold maxLen; omega) (keyOf_int_mk Trym.underlying27 hx) (plainElem_int (H := Unit) Trym.underlying3 hv)
  refine ⟨w', hrun, ⟨_, hown, ?_, ?_⟩, hg⟩
  · intro y hy
    unfold upd
    by_cases e : y = x
    · subst e
      simp only [if_true, Option.isSome_some, Option.getD_some]
      exact ⟨has_put_same h.isMap (show WideAt.IsKeyLit (.int .u64 y) from trivial) _, atKey_put_same h.isMap (show WideAt.IsKeyLit (.int .u64 y) from trivial) _ _⟩
    · have hne : Lit.int .u64 y ≠ Lit.int .u64 x := by simpa using e
      simp only [e, if_false]
      rw [has_put_other hne, atKey_put_other hne]
      exact hq y hy
  · rw [size_put (h.tidy law), (hq x hx).1]

/-- Of the old blocks only those of which p speaks may have turned. -/
structure Frm (w w' : World) (p : Nat → Prop) : Prop where
  os : w'.os = w.os
  tape : w'.tape = w.tape
  output : w'.output = w.output
  size : w.heap.size ≤ w'.heap.size
  block : ∀ k, k < w.heap.size → ¬ p k → w'.heap[k]? = w.heap[k]?

theorem Frm.refl (w : World) (p : Nat → Prop) : Frm w w p := ⟨rfl, rfl, rfl, Nat.le_refl _, fun _ _ _ => rfl⟩
theorem Frm.trans {a b c : World} {p q : Nat → Prop} (h : Frm a b p) (k : Frm b c q) : Frm a c (fun i => p i ∨ q i) :=
  ⟨k.os.trans h.os, k.tape.trans h.tape, k.output.trans h.output, Nat.le_trans h.size k.size, fun i hi hp =>
    (k.block i (Nat.lt_of_lt_of_le hi h.size) (fun e => hp (.inr e))).trans (h.block i hi (fun e => hp (.inl e)))⟩
theorem Frm.imp {w w' : World} {p q : Nat → Prop} (h : Frm w w' p) (i : ∀ k, k < w.heap.size → p k → q k) : Frm w w' q :=
  ⟨h.os, h.tape, h.output, h.size, fun k hk hq => h.block k hk (fun e => hq (i k hk e))⟩
theorem Frm.of_grown {w w' : World} {r : Nat} (h : w.grownBy w' (some r)) : Frm w w' (fun k => k = r) :=
  ⟨h.os, h.tape, h.output, h.size, fun k hk hp => h.block k hk (fun e => hp (by simpa using e))⟩
theorem Frm.alloc (w : World) (o : Obj) (p : Nat → Prop) : Frm w (w.alloc o) p :=
  ⟨rfl, rfl, rfl, by simp, fun k hk _ => Below.heap_alloc _ _ _ hk⟩
theorem Frm.setCell (w : World) (a : Addr) (u : Value) : Frm w (w.setCell a u) (fun k => k = a.block) :=
  ⟨rfl, rfl, rfl, by simp [World.setCell], fun k hk hp => Below.heap_setCell _ _ _ _ hp⟩
theorem Frm.drew (w : World) (p : Nat → Prop) : Frm w w.drew p := ⟨rfl, rfl, rfl, Nat.le_refl _, fun _ _ _ => rfl⟩
theorem Frm.below {w w' : World} {p : Nat → Prop} {B : Nat} (h : Frm w w' p) (hB : B ≤ w.heap.size) (hp : ∀ k, k < B → ¬ p k) : Below B w w' :=
  ⟨h.os, h.tape, h.output, h.size, fun k hk => h.block k (Nat.lt_of_lt_of_le hk hB) (hp k hk)⟩
theorem Frm.cell {w w' : World} {p : Nat → Prop} (h : Frm w w' p) {a : Addr} (ha : a.block < w.heap.size) (hp : ¬ p a.block) : w'.cell? a = w.cell? a := World.cell?_of_block (w := w) (h.block _ ha hp)
theorem Frm.frozen {w w' : World} {p : Nat → Prop} (h : Frm w w' p) {a : Addr} (ha : a.block < w.heap.size) (hp : ¬ p a.block) : w'.frozen? a = w.frozen? a := World.frozen?_of_block (w := w) (h.block _ ha hp)
theorem Frm.map {w w' : World} {p : Nat → Prop} (h : Frm w w' p) {b n s : Nat} {f : Int → Option Int} (m : MapIs w b n f s) (hp : ¬ p b) : MapIs w' b n f s := m.of_block (h.block _ m.lt hp)

/-- A 'counts' behind a pointer: its cell, and its map: nil, or what f says. -/
structure Cnt (w : World) (cb : Nat) (m : Option Nat) (n : Nat) (f : Int → Option Int) (s : Nat) : Prop where
  cell : w.cell? ⟨cb, 0, none⟩ = some (.map m)
  free : w.frozen? ⟨cb, 0, none⟩ = false
  map : (m = none ∧ s = 0 ∧ ∀ x, f x = none) ∨ ∃ b, m = some b ∧ b ≠ cb ∧ MapIs w b n f s

theorem lt_of_cell {w : World} {a : Addr} {v : Value} (h : w.cell? a = some v) : a.block < w.heap.size := by
  unfold World.cell? at h
  by_cases hb : a.block < w.heap.size
  · exact hb
  · rw [Array.getElem?_eq_none (by omega)] at h
    cases h

theorem Frm.cnt {w w' : World} {p : Nat → Prop} (h : Frm w w' p) {cb n s : Nat} {m : Option Nat} {f : Int → Option Int} (c : Cnt w cb m n f s) (hp : ¬ p cb) (hm : ∀ b, m = some b → ¬ p b) : Cnt w' cb m n f s := by
  have hl := lt_of_cell c.cell
  refine ⟨(h.cell hl hp).trans c.cell, (h.frozen hl hp).trans c.free, ?_⟩
  rcases c.map with h1 | ⟨b, rfl, hne, hM⟩
  · exact .inl h1
  · exact .inr ⟨b, rfl, hne, h.map hM (hm b rfl)⟩
end Go.Proofs.Qxb6608597aMods
