import Derived.Test.Qxb6608597aModsTallyMain
namespace Go.Proofs.Qxb6608597aMods
open Go.RowKit Go.Maps
set_option linter.unusedVariables false

/-- One more at x. -/
def inc (f : Int → Option Int) (x : Int) : Int → Option Int := upd f x (wrap64 ((f x).getD 0 + 1))
def incS (f : Int → Option Int) (s : Nat) (x : Int) : Nat := if (f x).isSome then s else s + 1

/-- What is wanted at x behind one more at a and one more at b. -/
def want (f : Int → Option Int) (a b x : Int) : Option Int :=
  if x = a then (if x = b then some (wrap64 (wrap64 ((f x).getD 0 + 1) + 1)) else some (wrap64 ((f x).getD 0 + 1)))
  else if x = b then some (wrap64 ((f x).getD 0 + 1)) else f x

theorem inc_inc (f : Int → Option Int) (a b x : Int) : inc (inc f a) b x = want f a b x := by
  unfold inc upd want
  by_cases h1 : x = a <;> by_cases h2 : x = b
  · subst h1; subst h2; simp
  · subst h1; simp [h2]
  · subst h2; simp [h1]
  · simp [h1, h2]
theorem inc_inc' (f : Int → Option Int) (a b x : Int) : inc (inc f b) a x = want f a b x := by
  unfold inc upd want
  by_cases h1 : x = a <;> by_cases h2 : x = b
  · subst h1; subst h2; simp
  · subst h1; simp [h2]
  · subst h2; simp [h1]
  · simp [h1, h2]

/-- The number of entries that is wanted. -/
def wantS (f : Int → Option Int) (s : Nat) (a b : Int) : Nat :=
  let s1 := if (f a).isSome then s else s + 1
  if b = a then s1 else if (f b).isSome then s1 else s1 + 1

theorem incS_incS (f : Int → Option Int) (s : Nat) (a b : Int) : incS (inc f a) (incS f s a) b = wantS f s a b := by
  unfold incS wantS inc upd
  by_cases h : b = a
  · subst h; simp
  · simp [h]
theorem incS_incS' (f : Int → Option Int) (s : Nat) (a b : Int) : incS (inc f b) (incS f s b) a = wantS f s a b := by
  unfold incS wantS inc upd
  by_cases h : b = a
  · subst h; simp
  · have h' : ¬ a = b := fun e => h e.symm
    simp [h, h']
    cases (f a).isSome <;> cases (f b).isSome <;> simp

/-- The map that is filled from the keys and the values: behind the first k of them. -/
def fill (ks vs : List Int) : Nat → Int → Option Int
  | 0 => fun _ => none
  | k + 1 => upd (fill ks vs k) (ks.getD k 0) (vs.getD k 0)
def fillS (ks vs : List Int) : Nat → Nat
  | 0 => 0
  | k + 1 => if (fill ks vs k (ks.getD k 0)).isSome then fillS ks vs k else fillS ks vs k + 1
theorem fillS_le (ks vs : List Int) (k : Nat) : fillS ks vs k ≤ k := by
  induction k with
  | zero => exact Nat.le_refl _
  | succ k ih => simp only [fillS]; split <;> omega

/-- A map value: nil, or what f says. -/
def M0 (w : World) (m : Option Nat) (n : Nat) (f : Int → Option Int) (s : Nat) : Prop :=
  (m = none ∧ s = 0 ∧ ∀ x, f x = none) ∨ ∃ b, m = some b ∧ MapIs w b n f s

theorem M0.look {w : World} {m : Option Nat} {n s : Nat} {f : Int → Option Int} (h : M0 w m n f s) {x : Int} (hx : Fits x) :
    (Instr.lookup 47 (.map m) (.int .u64 x) true).run Trym.prog w = .ok (.tuple #[.int .i64 ((f x).getD 0), .bool (f x).isSome]) w := by
  rcases h with ⟨rfl, _, hf⟩ | ⟨b, rfl, hM⟩
  · have hl := Maps.look_nil (P := Trym.prog) (w := w) (t := 47) true law Trym.underlying47 (zero3 w) (keyOf_int_mk Trym.underlying27 hx)
    rw [hl, hf x]
    rfl
  · exact hM.look Trym.underlying47 hx

theorem M0.len {w : World} {m : Option Nat} {n s : Nat} {f : Int → Option Int} (h : M0 w m n f s) (ty : TypeId) :
    (Builtin.len_ #[47] ty #[.map m]).run Trym.prog w = .ok (.int .i64 s) w := by
  rcases h with ⟨rfl, rfl, hf⟩ | ⟨b, rfl, hM⟩
  · exact Maps.len_nil Trym.underlying47 ty
  · exact hM.len Trym.underlying47 ty

theorem M0.frm {w w' : World} {p : Nat → Prop} (h : Frm w w' p) {m : Option Nat} {n s : Nat} {f : Int → Option Int} (c : M0 w m n f s) (hm : ∀ b, m = some b → ¬ p b) : M0 w' m n f s := by
  rcases c with h1 | ⟨b, rfl, hM⟩
  · exact .inl h1
  · exact .inr ⟨b, rfl, h.map hM (hm b rfl)⟩

theorem M0.lt {w : World} {m : Option Nat} {n s : Nat} {f : Int → Option Int} (c : M0 w m n f s) {b : Nat} (h : m = some b) : b < w.heap.size := by
  rcases c with ⟨h1, _⟩ | ⟨b', h1, hM⟩
  · rw [h1] at h; cases h
  · rw [h1] at h; cases h; exact hM.lt

theorem wpList_len_m0 (w : World) {ops : Array Oper} {rest : List Oper} {o : Oper} {a : Act} {Q : Exit → Act → World → Prop} (hg : o.guard = none) (m : Operand) (hop : o.op = Op.call { callee := Callee.builtin Builtin.len, args := #[m], argTypes := #[47] })
    (r : Option Nat) (n s : Nat) (f : Int → Option Int) (hm : a.eval m = .map r) (h : M0 w r n f s) (hK : wpList Trym.prog ops Q rest (a.put o.dst (.int .i64 s)) w) : wpList Trym.prog ops Q (o :: rest) a w := by
  refine wpList_plain hg fun K' hK' => ?_
  unfold Oper.wp
  simp [execOp, hop, resolve, invoke, builtin, hm, h.len o.type, Result.andThen]
  exact hK' _ _ hK

/-- A new 'counts' of a map value. -/
theorem Cnt.of {w : World} {m : Option Nat} {n s : Nat} {f : Int → Option Int} (h : M0 w m n f s) : Cnt (w.alloc (.cells #[.map m] 67)) w.heap.size m n f s := by
  refine ⟨by simp, by simp, ?_⟩
  rcases h with h1 | ⟨b, rfl, hM⟩
  · exact .inl h1
  · exact .inr ⟨b, rfl, by have := hM.lt; omega, (Frm.alloc w _ (fun _ => False)).map hM (fun h => h)⟩

theorem Cnt.lt {w : World} {cb : Nat} {m : Option Nat} {n s : Nat} {f : Int → Option Int} (h : Cnt w cb m n f s) {b : Nat} (e : m = some b) : b < w.heap.size := by
  rcases h.map with ⟨h1, _⟩ | ⟨b', h1, _, hM⟩
  · rw [h1] at e; cases e
  · rw [h1] at e; cases e; exact hM.lt

def AgreePost (w : World) (e : Ending) (w' : World) : Prop := e = .returned (.bool true) ∧ w' = w

set_option maxHeartbeats 1000000 in
theorem agree22 (cb : Nat) (m : Option Nat) (n s : Nat) (f : Int → Option Int) (r : Option Nat) (n0 s0 : Nat) (g : Int → Option Int) (x a b : Int) (w : World) (hc : Hid (Cnt w cb m n f s)) (h0 : Hid (M0 w r n0 g s0)) (hx : Hid (Fits x)) (hf : Hid (f x = want g a b x)) :
    Calls Trym.prog 22 #[.pointer (some ⟨cb, 0, none⟩), .map r, .int .u64 x, .int .u64 a, .int .u64 b] w (AgreePost w) := by
  have hl := h0.out.look hx.out
  have HC : Hid (Calls Trym.prog 19 #[.pointer (some ⟨cb, 0, none⟩), .int .u64 x] w (GetPost f x w)) := get19 cb m n s f x w hc hx
  generalize hv : (g x).getD 0 = v at *
  generalize hq : (g x).isSome = q at *
  by_cases h1 : x = a
  · by_cases h2 : x = b
    · subst h1; subst h2
      have HF : Hid (f x = some (wrap64 (wrap64 (v + 1) + 1))) := by show f x = _; rw [hf.out]; simp [want, hv]
      clear hv hq hf
      go_enter Trym.func22, Trym.ntmps22
      go_wp2_with fail
      refine HC.out.mono ?_
      rintro e w' ⟨rfl, hw'⟩
      rw [hw', HF.out]
      simp only [Option.getD_some, Option.isSome_some]
      clear hw' w'
      go_wp2_with fail
      go_ret
      exact ⟨by simp, rfl⟩
    · subst h1
      have hb : (x == b) = false := by simpa using h2
      have HF : Hid (f x = some (wrap64 (v + 1))) := by show f x = _; rw [hf.out]; simp [want, hv, h2]
      clear hv hq hf h2
      go_enter Trym.func22, Trym.ntmps22
      go_wp2_with fail
      refine HC.out.mono ?_
      rintro e w' ⟨rfl, hw'⟩
      rw [hw', HF.out]
      simp only [Option.getD_some, Option.isSome_some]
      clear hw' w'
      go_wp2_with fail
      go_ret
      exact ⟨by simp, rfl⟩
  · have ha : (x == a) = false := by simpa using h1
    by_cases h2 : x = b
    · subst h2
      have HF : Hid (f x = some (wrap64 (v + 1))) := by show f x = _; rw [hf.out]; simp [want, hv, h1]
      clear hv hq hf h1
      go_enter Trym.func22, Trym.ntmps22
      go_wp2_with fail
      refine HC.out.mono ?_
      rintro e w' ⟨rfl, hw'⟩
      rw [hw', HF.out]
      simp only [Option.getD_some, Option.isSome_some]
      clear hw' w'
      go_wp2_with fail
      go_ret
      exact ⟨by simp, rfl⟩
    · have hb : (x == b) = false := by simpa using h2
      have HF : Hid ((f x).getD 0 = v ∧ (f x).isSome = q) := by
        have e : f x = g x := by rw [hf.out]; simp [want, h1, h2]
        exact ⟨by rw [e, hv], by rw [e, hq]⟩
      clear hv hq hf h1 h2
      go_enter Trym.func22, Trym.ntmps22
      go_wp2_with fail
      refine HC.out.mono ?_
      rintro e w' ⟨rfl, hw'⟩
      rw [hw', HF.out.1, HF.out.2]
      clear hw' w'
      go_wp2_with fail
      go_ret
      exact ⟨by simp, rfl⟩
end Go.Proofs.Qxb6608597aMods
