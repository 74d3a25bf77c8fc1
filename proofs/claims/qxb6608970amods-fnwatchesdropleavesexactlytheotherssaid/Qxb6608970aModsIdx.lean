import Derived.Test.Qxb6608970aModsPairs
namespace Go.Proofs.Qxb6608970aMods
open Go.RowKit
set_option linter.unusedVariables false
set_option maxRecDepth 100000

theorem ks : RK Trym.prog 9 (fun s : ByteArray => Value.string s) (fun _ _ => True) := rk_string Trym.underlying9
theorem ki : RK Trym.prog 3 (fun n : Int => Value.int .i64 n) (fun _ _ => True) := rk_int Trym.underlying3
theorem info73 : ∃ j, Trym.prog.info? 73 = some j ∧ j.size ≠ 0 := by
  have h : ((Trym.prog.info? 73).map (fun j => decide (j.size ≠ 0))) = some true := by kernel_rfl
  cases e : Trym.prog.info? 73 with
  | none => rw [e] at h; cases h
  | some j => rw [e] at h; exact ⟨j, rfl, by simpa using h⟩
theorem kp : RK Trym.prog 38 ptrV CellB := by
  obtain ⟨j, h1, h2⟩ := info73
  exact rk_ptr (te := 73) Trym.underlying38 h1 h2
theorem zero42 (w : World) : (zeroValue 42).run Trym.prog w = .ok (.map none) w := by kernel_rfl
theorem zero40 (w : World) : (zeroValue 40).run Trym.prog w = .ok (.agg #[]) w := by kernel_rfl
theorem zero38 (w : World) : (zeroValue 38).run Trym.prog w = .ok (.pointer none) w := by kernel_rfl

instance decMem (q : ByteArray × Nat) (L : List (ByteArray × Nat)) : Decidable (q ∈ L) := @List.instDecidableMemOfLawfulBEq (ByteArray × Nat) instBEqOfDecidableEq inferInstance q L
instance decMemS (q : ByteArray) (L : List ByteArray) : Decidable (q ∈ L) := @List.instDecidableMemOfLawfulBEq ByteArray instBEqOfDecidableEq inferInstance q L

/-- Of the old blocks only those of which p speaks may have turned. -/
structure Frm (w w' : World) (p : Nat → Prop) : Prop where
  os : w'.os = w.os
  tape : w'.tape = w.tape
  output : w'.output = w.output
  size : w.heap.size ≤ w'.heap.size
  block : ∀ k, k < w.heap.size → ¬ p k → w'.heap[k]? = w.heap[k]?

theorem Frm.refl (w : World) (p : Nat → Prop) : Frm w w p := ⟨rfl, rfl, rfl, Nat.le_refl _, fun _ _ _ => rfl⟩
theorem Frm.trans {a b c : World} {p q : Nat → Prop} (h : Frm a b p) (k : Frm b c q) : Frm a c (fun i => p i ∨ q i) :=
  ⟨k.os.trans h.os, k.tape.trans h.tape, k.output.trans h.output, Nat.le_trans h.size k.size, fun i hi hp =>
    (k.block i (Nat.lt_of_lt_of_le hi h.size) (fun e => hp (.inr e))).trans (h.block i hi (fun e => hp (.inl e)))⟩
theorem Frm.imp {w w' : World} {p q : Nat → Prop} (h : Frm w w' p) (i : ∀ k, k < w.heap.size → p k → q k) : Frm w w' q :=
  ⟨h.os, h.tape, h.output, h.size, fun k hk hq => h.block k hk (fun e => hq (i k hk e))⟩
theorem Frm.of_grown {w w' : World} {r : Nat} (h : w.grownBy w' (some r)) : Frm w w' (fun k => k = r) :=
  ⟨h.os, h.tape, h.output, h.size, fun k hk hp => h.block k hk (fun e => hp (by simpa using e))⟩
theorem Frm.alloc (w : World) (o : Obj) (p : Nat → Prop) : Frm w (w.alloc o) p :=
  ⟨rfl, rfl, rfl, by simp, fun k hk _ => Below.heap_alloc _ _ _ hk⟩
theorem Frm.setCell (w : World) (a : Addr) (u : Value) : Frm w (w.setCell a u) (fun k => k = a.block) :=
  ⟨rfl, rfl, rfl, by simp [World.setCell], fun k hk hp => Below.heap_setCell _ _ _ _ hp⟩
theorem Frm.drew (w : World) (p : Nat → Prop) : Frm w w.drew p := ⟨rfl, rfl, rfl, Nat.le_refl _, fun _ _ _ => rfl⟩
theorem Frm.below {w w' : World} {p : Nat → Prop} {B : Nat} (h : Frm w w' p) (hB : B ≤ w.heap.size) (hp : ∀ k, k < B → ¬ p k) : Below B w w' :=
  ⟨h.os, h.tape, h.output, h.size, fun k hk => h.block k (Nat.lt_of_lt_of_le hk hB) (hp k hk)⟩
theorem Frm.cell {w w' : World} {p : Nat → Prop} (h : Frm w w' p) {a : Addr} (ha : a.block < w.heap.size) (hp : ¬ p a.block) : w'.cell? a = w.cell? a := World.cell?_of_block (w := w) (h.block _ ha hp)
theorem Frm.frozen {w w' : World} {p : Nat → Prop} (h : Frm w w' p) {a : Addr} (ha : a.block < w.heap.size) (hp : ¬ p a.block) : w'.frozen? a = w.frozen? a := World.frozen?_of_block (w := w) (h.block _ ha hp)
theorem lt_of_cell {w : World} {a : Addr} {v : Value} (h : w.cell? a = some v) : a.block < w.heap.size := by
  unfold World.cell? at h
  by_cases hb : a.block < w.heap.size
  · exact hb
  · rw [Array.getElem?_eq_none (by omega)] at h
    cases h
theorem CellB.lt {w : World} {b : Nat} (h : CellB w b) : b < w.heap.size := by
  obtain ⟨c, t, h⟩ := h
  exact (Array.getElem?_eq_some_iff.1 h).1
theorem CellB.frm {w w' : World} {b : Nat} {p : Nat → Prop} (h : CellB w b) (f : Frm w w' p) (hp : ¬ p b) : CellB w' b := by
  have hl := h.lt
  obtain ⟨c, t, h⟩ := h
  exact ⟨c, t, (f.block _ hl hp).trans h⟩
theorem RMap.notCell {κ : Type} [DecidableEq κ] {w : World} {b s : Nat} {emb : κ → Value} {f : κ → Option Value} (h : RMap w b emb f s) : ¬ CellB w b := by
  rintro ⟨c, t, hc⟩
  obtain ⟨es, cl, hb, _⟩ := h
  rw [hb] at hc
  cases hc
theorem RMap.frm {κ : Type} [DecidableEq κ] {w w' : World} {b s : Nat} {emb : κ → Value} {f : κ → Option Value} {p : Nat → Prop} (h : RMap w b emb f s) (g : Frm w w' p) (hp : ¬ p b) : RMap w' b emb f s := h.of_block (g.block _ h.lt hp)

abbrev Str := ByteArray
abbrev PairsL := List (Str × Nat)
def innerF (L : PairsL) (s : Str) : Nat → Option Value := fun p => if (s, p) ∈ L then some (.agg #[]) else none
def outerF (B : Str → Option Nat) : Str → Option Value := fun s => (B s).map (fun b => .map (some b))
def strV (s : Str) : Value := .string s

/-- Block bx is a watchIndex: it holds exactly the pairs L (a name; a watch's block), its inner maps lie in the blocks B. -/
structure Idx (base : Nat) (w : World) (bx : Nat) (B : Str → Option Nat) (L : PairsL) : Prop where
  outer : RMap w bx (fun s : Str => Value.string s) (outerF B) (dn L)
  inner : ∀ s b, B s = some b → RMap w b ptrV (innerF L s) (cnt L s)
  inj : ∀ s s' b, B s = some b → B s' = some b → s = s'
  ne : ∀ s b, B s = some b → b ≠ bx
  mem : ∀ s, (B s).isSome = true ↔ s ∈ names L
  nodup : L.Nodup
  dom : ∀ q ∈ L, CellB w q.2
  lo : base ≤ bx
  los : ∀ s b, B s = some b → base ≤ b

def Own (bx : Nat) (B : Str → Option Nat) (k : Nat) : Prop := k = bx ∨ ∃ s, B s = some k

theorem Idx.own_lt {base bx : Nat} {w : World} {B : Str → Option Nat} {L : PairsL} (h : Idx base w bx B L) {k : Nat} (o : Own bx B k) : k < w.heap.size := by
  rcases o with rfl | ⟨s, e⟩
  · exact h.outer.lt
  · exact (h.inner s k e).lt
theorem Idx.own_lo {base bx : Nat} {w : World} {B : Str → Option Nat} {L : PairsL} (h : Idx base w bx B L) {k : Nat} (o : Own bx B k) : base ≤ k := by
  rcases o with rfl | ⟨s, e⟩
  · exact h.lo
  · exact h.los s k e
theorem Idx.own_cell {base bx : Nat} {w : World} {B : Str → Option Nat} {L : PairsL} (h : Idx base w bx B L) {k : Nat} (c : CellB w k) : ¬ Own bx B k := by
  rintro (rfl | ⟨s, e⟩)
  · exact h.outer.notCell c
  · exact (h.inner s k e).notCell c
theorem Idx.frm {base bx : Nat} {w w' : World} {B : Str → Option Nat} {L : PairsL} (h : Idx base w bx B L) {p : Nat → Prop} (f : Frm w w' p) (hp : ∀ k, Own bx B k → ¬ p k) (hd : ∀ q ∈ L, CellB w' q.2) : Idx base w' bx B L where
  outer := h.outer.frm f (hp _ (.inl rfl))
  inner s b e := (h.inner s b e).frm f (hp _ (.inr ⟨s, e⟩))
  inj := h.inj
  ne := h.ne
  mem := h.mem
  nodup := h.nodup
  dom := hd
  lo := h.lo
  los := h.los

theorem Idx.made {base : Nat} (w : World) (hb : base ≤ w.heap.size) : Idx base (w.alloc (.map #[] 0)) w.heap.size (fun _ => none) [] where
  outer := RMap.made w _
  inner s b e := by cases e
  inj s s' b e := by cases e
  ne s b e := by cases e
  mem s := by simp [names]
  nodup := by simp
  dom q h := by cases h
  lo := hb
  los s b e := by cases e

/-- 'x[s]'. -/
theorem Idx.look {base bx : Nat} {w : World} {B : Str → Option Nat} {L : PairsL} (h : Idx base w bx B L) (s : Str) :
    (Instr.lookup 35 (.map (some bx)) (.string s) false).run Trym.prog w = .ok (.map (B s)) w := by
  have := h.outer.look ks Trym.underlying35 (zero42 w) (fun _ _ => trivial) (a := s) trivial false
  rw [this]
  unfold outerF
  cases B s <;> rfl
theorem Idx.innerDom {base bx : Nat} {w : World} {B : Str → Option Nat} {L : PairsL} (h : Idx base w bx B L) (s : Str) (a : Nat) (e : (innerF L s a).isSome = true) : CellB w a := by
  unfold innerF at e
  split at e
  · rename_i c; exact h.dom _ c
  · cases e
/-- '_, ok := x[s][p]'. -/
theorem Idx.look2 {base bx : Nat} {w : World} {B : Str → Option Nat} {L : PairsL} (h : Idx base w bx B L) (s : Str) {p : Nat} (hp : CellB w p) :
    (Instr.lookup 42 (.map (B s)) (.pointer (some ⟨p, 0, none⟩)) true).run Trym.prog w = .ok (.tuple #[.agg #[], .bool (decide ((s, p) ∈ L))]) w := by
  cases e : B s with
  | none =>
    have hn : (s, p) ∉ L := fun c => by
      have := (h.mem s).2 (mem_names.2 ⟨p, c⟩)
      rw [e] at this; cases this
    have := look_nil (w := w) kp Trym.underlying42 (zero40 w) hp true
    simp only [ptrV] at this
    rw [this]
    simp [hn]
  | some b =>
    have := (h.inner s b e).look kp Trym.underlying42 (zero40 w) (h.innerDom s) hp true
    simp only [ptrV] at this
    rw [this]
    unfold innerF
    by_cases c : (s, p) ∈ L <;> simp [c]
/-- 'len(x[s])'. -/
theorem Idx.len2 {base bx : Nat} {w : World} {B : Str → Option Nat} {L : PairsL} (h : Idx base w bx B L) (s : Str) (ty : TypeId) :
    (Builtin.len_ #[42] ty #[.map (B s)]).run Trym.prog w = .ok (.int .i64 (cnt L s)) w := by
  cases e : B s with
  | none =>
    have hn : cnt L s = 0 := Classical.byContradiction fun c => by
      have := (h.mem s).2 (cnt_pos.1 c)
      rw [e] at this; cases this
    rw [len_nil Trym.underlying42 ty, hn]
    rfl
  | some b => exact (h.inner s b e).len Trym.underlying42 ty
theorem Idx.len {base bx : Nat} {w : World} {B : Str → Option Nat} {L : PairsL} (h : Idx base w bx B L) (ty : TypeId) :
    (Builtin.len_ #[35] ty #[.map (some bx)]).run Trym.prog w = .ok (.int .i64 (dn L)) w := h.outer.len Trym.underlying35 ty

theorem innerF_add (L : PairsL) (s : Str) (p : Nat) : updK (innerF L s) p (.agg #[]) = innerF (addP L (s, p)) s := by
  funext y
  unfold updK innerF
  simp only [mem_addP, Prod.mk.injEq, true_and]
  by_cases e : y = p <;> simp [e]
theorem innerF_add_ne (L : PairsL) {s s' : Str} (p : Nat) (h : s' ≠ s) : innerF (addP L (s, p)) s' = innerF L s' := by
  funext y
  unfold innerF
  simp [mem_addP, h]

def AddPost (base bx : Nat) (B : Str → Option Nat) (L : PairsL) (s : Str) (p : Nat) (w : World) (e : Ending) (w' : World) : Prop :=
  e = .returned (.tuple #[]) ∧ ∃ B', Idx base w' bx B' (addP L (s, p)) ∧ Frm w w' (Own bx B) ∧ ∀ k, Own bx B' k → Own bx B k ∨ w.heap.size ≤ k

theorem run_eql_nil42 (w : World) (m : Option Nat) : (binOp .eql 42 (.map m) (.map none)).run Trym.prog w = .ok (.bool m.isNone) w := run_eql_map_nil w 42 38 40 m Trym.underlying42

theorem add_some_idx {base bx b : Nat} {w w2 : World} {B : Str → Option Nat} {L : PairsL} {s : Str} {p : Nat} (h : Idx base w bx B L) (e : B s = some b) (hp : CellB w p)
    (hM : RMap w2 b ptrV (updK (innerF L s) p (.agg #[])) (if (innerF L s p).isSome then cnt L s else cnt L s + 1)) (hg : w.grownBy w2 (some b)) : Idx base w2 bx B (addP L (s, p)) := by
  have fr := Frm.of_grown hg
  have hs : s ∈ names L := (h.mem s).1 (by rw [e]; rfl)
  have hnb : ∀ q, CellB w q → q ≠ b := fun q hq e2 => (h.inner s b e).notCell (e2 ▸ hq)
  refine ⟨?_, ?_, h.inj, h.ne, ?_, nodup_addP h.nodup _, ?_, h.lo, h.los⟩
  · rw [dn_addP, if_pos hs]
    exact h.outer.frm fr (fun e2 => h.ne s b e e2.symm)
  · intro s' b' e'
    by_cases c : s' = s
    · subst c
      rw [e] at e'
      cases e'
      rw [innerF_add] at hM
      rw [cnt_addP]
      have e3 : (innerF L s' p).isSome = decide ((s', p) ∈ L) := by
        unfold innerF
        by_cases c2 : (s', p) ∈ L <;> simp [c2]
      rw [e3] at hM
      by_cases c2 : (s', p) ∈ L
      · rw [if_pos c2]; simpa [c2] using hM
      · rw [if_neg c2]; simpa [c2] using hM
    · rw [innerF_add_ne L p c, cnt_addP_ne L p c]
      exact (h.inner s' b' e').frm fr (fun e2 => c (h.inj s' s b (e2 ▸ e') e))
  · intro x
    rw [h.mem, names_addP]
    exact ⟨.inr, fun h2 => by rcases h2 with rfl | h2; exact hs; exact h2⟩
  · intro q hq
    rcases mem_addP.1 hq with rfl | hq
    · exact hp.frm fr (hnb _ hp)
    · exact (h.dom q hq).frm fr (hnb _ (h.dom q hq))

theorem add30_some (base bx b : Nat) (B : Str → Option Nat) (L : PairsL) (s : Str) (p : Nat) (w : World) (h : Hid (Idx base w bx B L)) (e : Hid (B s = some b)) (hp : Hid (CellB w p)) :
    Calls Trym.prog 30 #[.map (some bx), .string s, .pointer (some ⟨p, 0, none⟩)] w (AddPost base bx B L s p w) := by
  have hl := h.out.look s
  rw [e.out] at hl
  obtain ⟨w2, hrun, hM, hg⟩ := (h.out.inner s b e.out).put kp Trym.underlying42 (h.out.innerDom s) hp.out (.agg #[])
  have HF : Hid (AddPost base bx B L s p w (.returned (.tuple #[])) w2) :=
    ⟨rfl, B, add_some_idx h.out e.out hp.out hM hg, (Frm.of_grown hg).imp (fun k _ e2 => .inr ⟨s, e2 ▸ e.out⟩), fun k o => .inl o⟩
  simp only [ptrV] at hrun
  have q := fun w m => run_eql_nil42 w m
  clear hM hg h e hp
  go_enter Trym.func30, Trym.ntmps30
  go_wp2
  go_end0
  exact HF.out
end Go.Proofs.Qxb6608970aMods
