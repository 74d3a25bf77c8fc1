import Derived.Test.Qxb6608970aModsProg
import Derived.WalkKit
import Derived.WalkSpells
import Derived.WalkLawsBesides
import Derived.Maps.OwnSet
import Derived.LaidEqlPtr
import Derived.Deep.QuietTactic
import Derived.BigQuiet
namespace Go.Proofs.Qxb6608970aMods
open Go.RowKit
open Go.ChangeMaps (setBlock heap_setBlock_same heap_setBlock_other)
set_option linter.unusedVariables false
set_option linter.unusedSectionVars false

theorem nodup_inj {α : Type} {l : List α} (h : l.Nodup) {i j : Nat} (e : l[i]? = l[j]?) (hi : i < l.length) : i = j := by
  have hj : j < l.length := by
    rcases Nat.lt_or_ge j l.length with hj | hj
    · exact hj
    · rw [List.getElem?_eq_none hj, List.getElem?_eq_getElem hi] at e
      exact absurd e (by simp)
  rw [List.getElem?_eq_getElem hi, List.getElem?_eq_getElem hj] at e
  have e' : l[i] = l[j] := Option.some.inj e
  rw [List.nodup_iff_pairwise_ne, List.pairwise_iff_getElem] at h
  rcases Nat.lt_trichotomy i j with c | c | c
  · exact absurd e' (h i j hi hj c)
  · exact c
  · exact absurd e'.symm (h j i hj hi c)

/-! Maps told by a plain function from plain keys to values, whatever the keys are: strings, numbers, pointers. -/
section
variable {κ : Type} [DecidableEq κ]

/-- How plain keys stand for the keys of type k: 'Dom w a': the key a may be asked for in the world w. -/
structure RK (P : Program) (k : TypeId) (emb : κ → Value) (Dom : World → κ → Prop) : Prop where
  inj : ∀ {a b}, emb a = emb b → a = b
  check : ∀ (w : World) (em : Bool) {a}, Dom w a → (Instr.checkKey em 10000 k (emb a)).run P w = .ok () w
  find : ∀ (w : World) {a}, Dom w a → ∀ es : List MapEntry, (∀ e ∈ es, ∃ b, Dom w b ∧ e.key = emb b) →
    ((Instr.findKey k (emb a) es).run P w = .ok none w ∧ ∀ e ∈ es, e.key ≠ emb a) ∨ ∃ j e, (Instr.findKey k (emb a) es).run P w = .ok (some (j, e.val)) w ∧ es[j]? = some e ∧ e.key = emb a
  stays : ∀ (w : World) {a}, Dom w a → (Instr.keyThatStays (emb a) (emb a)).run P w = .ok (emb a) w

def updK (f : κ → Option Value) (a : κ) (v : Value) : κ → Option Value := fun y => if y = a then some v else f y
def delK (f : κ → Option Value) (a : κ) : κ → Option Value := fun y => if y = a then none else f y

/-- Block b is a map: at the key a what f says; s entries. -/
def RMap (w : World) (b : Nat) (emb : κ → Value) (f : κ → Option Value) (s : Nat) : Prop :=
  ∃ es clock, w.heap[b]? = some (.map es clock) ∧ (∀ e ∈ es.toList, ∃ a, e.key = emb a ∧ f a = some e.val) ∧ (∀ a v, f a = some v → ∃ e ∈ es.toList, e.key = emb a ∧ e.val = v) ∧ (es.toList.map (·.key)).Nodup ∧ es.size = s

variable {P : Program} {k : TypeId} {emb : κ → Value} {Dom : World → κ → Prop} {w : World} {b s : Nat} {f : κ → Option Value}

theorem RMap.lt (h : RMap w b emb f s) : b < w.heap.size := by
  obtain ⟨es, clock, hb, _⟩ := h
  exact (Array.getElem?_eq_some_iff.1 hb).1
theorem RMap.of_block {w' : World} (h : RMap w b emb f s) (e : w'.heap[b]? = w.heap[b]?) : RMap w' b emb f s := by
  obtain ⟨es, clock, hb, r⟩ := h
  exact ⟨es, clock, e.trans hb, r⟩
theorem RMap.made (w : World) (emb : κ → Value) : RMap (w.alloc (.map #[] 0)) w.heap.size emb (fun _ => none) 0 :=
  ⟨#[], 0, (MapKept.heap_alloc w _).1, by simp, by simp, by simp, rfl⟩

theorem RMap.hit (K : RK P k emb Dom) {es : List MapEntry} (h1 : ∀ e ∈ es, ∃ a, e.key = emb a ∧ f a = some e.val) {e : MapEntry} (he : e ∈ es) {a : κ} (hk : e.key = emb a) : f a = some e.val := by
  obtain ⟨a', e1, e2⟩ := h1 e he
  have : a' = a := K.inj (e1.symm.trans hk)
  subst this
  exact e2

/-- 'm[a]', 'v, ok := m[a]'. -/
theorem RMap.look (h : RMap w b emb f s) (K : RK P k emb Dom) {t el : TypeId} (ht : P.underlying t = some (.map k el)) {z : Value} (hz : (zeroValue el).run P w = .ok z w) (hD : ∀ a, (f a).isSome = true → Dom w a) {a : κ} (ha : Dom w a) (c : Bool) :
    (Instr.lookup t (.map (some b)) (emb a) c).run P w = .ok (if c then .tuple #[(f a).getD z, .bool (f a).isSome] else (f a).getD z) w := by
  obtain ⟨es, clock, hb, h1, h2, h3, _⟩ := h
  have hks : ∀ e ∈ es.toList, ∃ b, Dom w b ∧ e.key = emb b := fun e he => by
    obtain ⟨x, e1, e2⟩ := h1 e he
    exact ⟨x, hD x (by rw [e2]; rfl), e1⟩
  rcases K.find w ha es.toList hks with ⟨q1, q2⟩ | ⟨j, e0, q1, q2, q3⟩
  · have hn : f a = none := by
      cases hf : f a with
      | none => rfl
      | some v =>
        obtain ⟨e, he, hk, _⟩ := h2 a v hf
        exact absurd hk (q2 e he)
    rw [hn]
    simp [Instr.lookup, run_underlying ht, MapKept.run_getObj_map hb, K.check w _ ha, q1, hz, Result.andThen]
  · have hm0 : e0 ∈ es.toList := List.mem_of_getElem? q2
    rw [RMap.hit K h1 hm0 q3]
    simp [Instr.lookup, run_underlying ht, MapKept.run_getObj_map hb, K.check w _ ha, q1, Result.andThen]

theorem look_nil (K : RK P k emb Dom) {t el : TypeId} (ht : P.underlying t = some (.map k el)) {z : Value} (hz : (zeroValue el).run P w = .ok z w) {a : κ} (ha : Dom w a) (c : Bool) :
    (Instr.lookup t (.map none) (emb a) c).run P w = .ok (if c then .tuple #[z, .bool false] else z) w := by
  rcases K.find w ha [] (by simp) with ⟨q1, _⟩ | ⟨j, e0, _, q2, _⟩
  · simp [Instr.lookup, run_underlying ht, K.check w _ ha, q1, hz, Result.andThen]
  · simp at q2

/-- 'len(m)'. -/
theorem RMap.len (h : RMap w b emb f s) {t el : TypeId} (ht : P.underlying t = some (.map k el)) (ty : TypeId) : (Builtin.len_ #[t] ty #[.map (some b)]).run P w = .ok (.int .i64 s) w := by
  obtain ⟨es, clock, hb, _, _, _, rfl⟩ := h
  simp [Builtin.len_, run_underlying ht, MapKept.run_getObj_map hb, goInt, Result.andThen]

theorem grown_setBlock {es : Array MapEntry} {clock : Nat} (hb : w.heap[b]? = some (.map es clock)) (o : Obj) : w.grownBy (setBlock w b o) (some b) :=
  ⟨rfl, rfl, rfl, by simp [setBlock], fun i _ hi => heap_setBlock_other hb _ (fun e => hi (by rw [e]))⟩

/-- 'm[a] = v'. -/
theorem RMap.put (h : RMap w b emb f s) (K : RK P k emb Dom) {t el : TypeId} (ht : P.underlying t = some (.map k el)) (hD : ∀ a, (f a).isSome = true → Dom w a) {a : κ} (ha : Dom w a) (v : Value) :
    ∃ w', (Instr.mapUpdate t (.map (some b)) (emb a) v).run P w = .ok () w' ∧ RMap w' b emb (updK f a v) (if (f a).isSome then s else s + 1) ∧ w.grownBy w' (some b) := by
  obtain ⟨es, clock, hb, h1, h2, h3, rfl⟩ := h
  have hks : ∀ e ∈ es.toList, ∃ b, Dom w b ∧ e.key = emb b := fun e he => by
    obtain ⟨x, e1, e2⟩ := h1 e he
    exact ⟨x, hD x (by rw [e2]; rfl), e1⟩
  rcases K.find w ha es.toList hks with ⟨q1, q2⟩ | ⟨j, e0, q1, q2, q3⟩
  · have hn : f a = none := by
      cases hf : f a with
      | none => rfl
      | some v =>
        obtain ⟨e, he, hk, _⟩ := h2 a v hf
        exact absurd hk (q2 e he)
    refine ⟨setBlock w b (.map (es.push { key := emb a, val := v, born := clock }) (clock + 1)), ?_, ⟨_, _, heap_setBlock_same hb _, ?_, ?_, ?_, ?_⟩, grown_setBlock hb _⟩
    · simp [Instr.mapUpdate, run_underlying ht, MapKept.run_getObj_map hb, K.check w _ ha, q1, MapKept.run_setObj_map _ hb, Result.andThen, setBlock]
    · intro e he
      simp only [Array.toList_push, List.mem_append, List.mem_singleton] at he
      rcases he with he | rfl
      · obtain ⟨x, e1, e2⟩ := h1 e he
        refine ⟨x, e1, ?_⟩
        unfold updK
        rw [if_neg (fun e3 => by subst e3; exact q2 e he e1)]
        exact e2
      · exact ⟨a, rfl, by simp [updK]⟩
    · intro x u hu
      unfold updK at hu
      simp only [Array.toList_push, List.mem_append, List.mem_singleton]
      by_cases e : x = a
      · subst e
        rw [if_pos rfl] at hu
        exact ⟨_, .inr rfl, rfl, by simpa using hu⟩
      · rw [if_neg e] at hu
        obtain ⟨e0, he, r⟩ := h2 x u hu
        exact ⟨e0, .inl he, r⟩
    · simp only [Array.toList_push, List.map_append, List.map_cons, List.map_nil]
      rw [List.nodup_append]
      refine ⟨h3, by simp, ?_⟩
      intro x hx y hy hxy
      simp at hy
      subst hy
      obtain ⟨e, he, rfl⟩ := List.mem_map.1 hx
      exact q2 e he hxy
    · rw [hn]; simp
  · have hm0 : e0 ∈ es.toList := List.mem_of_getElem? q2
    have hfa := RMap.hit K h1 hm0 q3
    have hj : j < es.toList.length := (List.getElem?_eq_some_iff.1 q2).1
    have ej : es.toList[j] = e0 := (List.getElem?_eq_some_iff.1 q2).2
    have hmod : (es.modify j fun e => { e with key := emb a, val := v }).toList = es.toList.set j { e0 with key := emb a, val := v } := by
      apply List.ext_getElem?
      intro i
      simp only [Array.getElem?_toList, Array.getElem?_modify, List.getElem?_set]
      by_cases e : j = i
      · subst e
        have : es[j]? = some e0 := by rw [← Array.getElem?_toList]; exact q2
        simp [this]
        simpa using hj
      · simp [e]
    have hkey : ∀ i (hi : i < es.toList.length), i ≠ j → (es.toList[i]).key ≠ emb a := by
      intro i hi hij he
      exact hij (nodup_inj h3 (i := i) (j := j) (by rw [List.getElem?_map, List.getElem?_map, List.getElem?_eq_getElem hi, q2]; simp only [Option.map_some]; rw [he, q3]) (by simpa using hi))
    refine ⟨setBlock w b (.map (es.modify j fun e => { e with key := emb a, val := v }) clock), ?_, ⟨_, _, heap_setBlock_same hb _, ?_, ?_, ?_, ?_⟩, grown_setBlock hb _⟩
    · have hes : (es[j]?).map (·.key) = some (emb a) := by
        have : es[j]? = some e0 := by rw [← Array.getElem?_toList]; exact q2
        rw [this]; simp [q3]
      simp [Instr.mapUpdate, run_underlying ht, MapKept.run_getObj_map hb, K.check w _ ha, q1, hes, K.stays w ha, MapKept.run_setObj_map _ hb, Result.andThen, setBlock]
    · intro e he
      rw [hmod] at he
      obtain ⟨i, hi, rfl⟩ := List.getElem_of_mem he
      have hi' : i < es.toList.length := by simpa using hi
      by_cases e : i = j
      · subst e
        exact ⟨a, by simp, by simp [updK]⟩
      · rw [List.getElem_set_ne (Ne.symm e)]
        obtain ⟨x, e1, e2⟩ := h1 _ (List.getElem_mem hi')
        refine ⟨x, e1, ?_⟩
        unfold updK
        rw [if_neg (fun e3 => by subst e3; exact hkey i hi' e e1)]
        exact e2
    · intro x u hu
      rw [hmod]
      unfold updK at hu
      by_cases e : x = a
      · subst e
        rw [if_pos rfl] at hu
        refine ⟨{ e0 with key := emb x, val := v }, List.mem_of_getElem? (i := j) ?_, rfl, by simpa using hu⟩
        exact List.getElem?_set_self hj
      · rw [if_neg e] at hu
        obtain ⟨e1, he, r1, r2⟩ := h2 x u hu
        obtain ⟨i, hi, rfl⟩ := List.getElem_of_mem he
        have hij : i ≠ j := fun e2 => by
          subst e2
          rw [ej, q3] at r1
          exact e (K.inj r1).symm
        exact ⟨es.toList[i], List.mem_of_getElem? (i := i) (by rw [List.getElem?_set_ne (Ne.symm hij)]; exact List.getElem?_eq_getElem hi), r1, r2⟩
    · rw [hmod, List.map_set]
      have : (es.toList.map (·.key)).set j (emb a) = es.toList.map (·.key) := by
        apply List.ext_getElem?
        intro i
        rw [List.getElem?_set]
        by_cases e : j = i
        · subst e
          rw [if_pos rfl]
          simp [q2, q3]
          simpa using hj
        · rw [if_neg e]
      show ((es.toList.map (·.key)).set j (emb a)).Nodup
      rw [this]
      exact h3
    · rw [hfa]; simp

/-- 'delete(m, a)'. -/
theorem RMap.del (h : RMap w b emb f s) (K : RK P k emb Dom) {t el : TypeId} (ht : P.underlying t = some (.map k el)) (hD : ∀ a, (f a).isSome = true → Dom w a) {a : κ} (ha : Dom w a) (ty : TypeId) :
    ∃ w', (Builtin.delete_ #[t, k] ty #[.map (some b), emb a]).run P w = .ok (.tuple #[]) w' ∧ RMap w' b emb (delK f a) (if (f a).isSome then s - 1 else s) ∧ w.grownBy w' (some b) := by
  obtain ⟨es, clock, hb, h1, h2, h3, rfl⟩ := h
  have hks : ∀ e ∈ es.toList, ∃ b, Dom w b ∧ e.key = emb b := fun e he => by
    obtain ⟨x, e1, e2⟩ := h1 e he
    exact ⟨x, hD x (by rw [e2]; rfl), e1⟩
  rcases K.find w ha es.toList hks with ⟨q1, q2⟩ | ⟨j, e0, q1, q2, q3⟩
  · have hn : f a = none := by
      cases hf : f a with
      | none => rfl
      | some v =>
        obtain ⟨e, he, hk, _⟩ := h2 a v hf
        exact absurd hk (q2 e he)
    have hdel : delK f a = f := by
      funext y
      unfold delK
      by_cases e : y = a
      · rw [if_pos e, e, hn]
      · rw [if_neg e]
    refine ⟨setBlock w b (.map es clock), ?_, ⟨_, _, heap_setBlock_same hb _, ?_, ?_, h3, ?_⟩, grown_setBlock hb _⟩
    · simp [Builtin.delete_, run_underlying ht, MapKept.run_getObj_map hb, K.check w _ ha, q1, MapKept.run_setObj_map _ hb, Result.andThen, setBlock]
    · rw [hdel]; exact h1
    · rw [hdel]; exact h2
    · rw [hn]; simp
  · have hm0 : e0 ∈ es.toList := List.mem_of_getElem? q2
    have hfa := RMap.hit K h1 hm0 q3
    have hj : j < es.toList.length := (List.getElem?_eq_some_iff.1 q2).1
    have hj' : j < es.size := by simpa using hj
    have her : (es.eraseIdxIfInBounds j).toList = es.toList.eraseIdx j := by
      rw [Array.eraseIdxIfInBounds, dif_pos hj']
      simp
    have hkey : ∀ e ∈ es.toList.eraseIdx j, e ∈ es.toList ∧ e.key ≠ emb a := by
      intro e he
      rw [List.mem_eraseIdx_iff_getElem?] at he
      obtain ⟨i, hij, hi⟩ := he
      refine ⟨List.mem_of_getElem? hi, fun hk => hij ?_⟩
      exact nodup_inj h3 (i := i) (j := j) (by rw [List.getElem?_map, List.getElem?_map, hi, q2]; simp [hk, q3]) (by have := (List.getElem?_eq_some_iff.1 hi).1; simpa using this)
    refine ⟨setBlock w b (.map (es.eraseIdxIfInBounds j) clock), ?_, ⟨_, _, heap_setBlock_same hb _, ?_, ?_, ?_, ?_⟩, grown_setBlock hb _⟩
    · simp [Builtin.delete_, run_underlying ht, MapKept.run_getObj_map hb, K.check w _ ha, q1, MapKept.run_setObj_map _ hb, Result.andThen, setBlock]
    · intro e he
      rw [her] at he
      obtain ⟨r1, r2⟩ := hkey e he
      obtain ⟨x, e1, e2⟩ := h1 e r1
      refine ⟨x, e1, ?_⟩
      unfold delK
      rw [if_neg (fun e3 => by subst e3; exact r2 e1)]
      exact e2
    · intro x u hu
      rw [her]
      unfold delK at hu
      by_cases e : x = a
      · rw [if_pos e] at hu; exact absurd hu (by simp)
      · rw [if_neg e] at hu
        obtain ⟨e1, he, r1, r2⟩ := h2 x u hu
        obtain ⟨i, hi⟩ := List.getElem?_of_mem he
        refine ⟨e1, ?_, r1, r2⟩
        rw [List.mem_eraseIdx_iff_getElem?]
        refine ⟨i, fun e2 => ?_, hi⟩
        subst e2
        rw [q2] at hi
        obtain rfl := Option.some.inj hi
        exact e (K.inj (r1.symm.trans q3))
    · rw [her]
      exact List.Nodup.sublist ((List.eraseIdx_sublist ..).map _) h3
    · rw [hfa, ← Array.length_toList, her, List.length_eraseIdx, if_pos hj]; simp

theorem del_nil (K : RK P k emb Dom) {t el : TypeId} (ht : P.underlying t = some (.map k el)) {a : κ} (ha : Dom w a) (ty : TypeId) :
    (Builtin.delete_ #[t, k] ty #[.map none, emb a]).run P w = .ok (.tuple #[]) w := by
  simp [Builtin.delete_, run_underlying ht, K.check w _ ha, Result.andThen]
theorem len_nil {t el : TypeId} (ht : P.underlying t = some (.map k el)) (ty : TypeId) : (Builtin.len_ #[t] ty #[.map none]).run P w = .ok (.int .i64 0) w := by
  simp [Builtin.len_, run_underlying ht, goInt, Result.andThen]
end

/-! The three kinds of keys. -/
theorem beqB (a b : ByteArray) : (a == b) = decide (a = b) := by
  rw [beq_toListBytes]
  by_cases h : a = b
  · subst h; simp
  · have : a.toList ≠ b.toList := fun e => h (by rw [ByteArray.toList_eq, ByteArray.toList_eq] at e; exact ByteArray.ext (Array.toList_inj.mp e))
    simp [h, this]

theorem rk_string {P : Program} {k : TypeId} (hk : P.underlying k = some .string) : RK P k (fun s : ByteArray => Value.string s) (fun _ _ => True) where
  inj h := by simpa using h
  check w em {a} _ := by
    have h : ∀ n, (Instr.checkKey em (n + 1) k (.string a)).run P w = .ok () w := fun n => by simp [Instr.checkKey, run_underlying hk]
    exact h 9999
  find w {a} _ es hes := by
    have key : ∀ (es : List MapEntry), (∀ e ∈ es, ∃ b : ByteArray, True ∧ e.key = .string b) → ∀ n : Nat, (Instr.findNow .string (.string a) es n = some none ∧ ∀ e ∈ es, e.key ≠ .string a) ∨ ∃ j e, Instr.findNow .string (.string a) es n = some (some (n + j, e.val)) ∧ es[j]? = some e ∧ e.key = .string a := by
      intro es
      induction es with
      | nil => intro _ n; exact .inl ⟨rfl, by simp⟩
      | cons e es ih =>
        intro h n
        obtain ⟨b, _, hb⟩ := h e (by simp)
        by_cases c : a = b
        · subst c
          exact .inr ⟨0, e, by simp [Instr.findNow, hb, Instr.sameNow, beqB], by simp, hb⟩
        · rcases ih (fun e he => h e (by simp [he])) (n + 1) with ⟨r1, r2⟩ | ⟨j, e1, r1, r2, r3⟩
          · refine .inl ⟨by simp only [Instr.findNow, hb, Instr.sameNow, beqB, decide_eq_false c, r1], ?_⟩
            intro x hx
            simp only [List.mem_cons] at hx
            rcases hx with rfl | hx
            · rw [hb]; intro h2; exact c (by simpa using h2.symm)
            · exact r2 x hx
          · exact .inr ⟨j + 1, e1, by simp only [Instr.findNow, hb, Instr.sameNow, beqB, decide_eq_false c, r1]; rw [Nat.add_assoc, Nat.add_comm 1 j], by simpa using r2, r3⟩
    rcases key es hes 0 with ⟨r1, r2⟩ | ⟨j, e, r1, r2, r3⟩
    · exact .inl ⟨by simp [Instr.findKey, run_underlying hk, r1], r2⟩
    · exact .inr ⟨j, e, by simp [Instr.findKey, run_underlying hk, r1], r2, r3⟩
  stays w {a} _ := by simp [Instr.keyThatStays, Instr.sameBits, beqB]

theorem rk_int {P : Program} {k : TypeId} {q : IntKind} (hk : P.underlying k = some (.int q)) : RK P k (fun n : Int => Value.int q n) (fun _ _ => True) where
  inj h := by simpa using h
  check w em {a} _ := by
    have h : ∀ n, (Instr.checkKey em (n + 1) k (.int q a)).run P w = .ok () w := fun n => by simp [Instr.checkKey, run_underlying hk]
    exact h 9999
  find w {a} _ es hes := by
    have key : ∀ (es : List MapEntry), (∀ e ∈ es, ∃ b : Int, True ∧ e.key = .int q b) → ∀ n : Nat, (Instr.findNow (.int q) (.int q a) es n = some none ∧ ∀ e ∈ es, e.key ≠ .int q a) ∨ ∃ j e, Instr.findNow (.int q) (.int q a) es n = some (some (n + j, e.val)) ∧ es[j]? = some e ∧ e.key = .int q a := by
      intro es
      induction es with
      | nil => intro _ n; exact .inl ⟨rfl, by simp⟩
      | cons e es ih =>
        intro h n
        obtain ⟨b, _, hb⟩ := h e (by simp)
        by_cases c : a = b
        · subst c
          exact .inr ⟨0, e, by simp [Instr.findNow, hb, Instr.sameNow], by simp, hb⟩
        · rcases ih (fun e he => h e (by simp [he])) (n + 1) with ⟨r1, r2⟩ | ⟨j, e1, r1, r2, r3⟩
          · refine .inl ⟨by simp only [Instr.findNow, hb, Instr.sameNow, if_true, beq_false_of_ne c, r1], ?_⟩
            intro x hx
            simp only [List.mem_cons] at hx
            rcases hx with rfl | hx
            · rw [hb]; intro h2; exact c (by simpa using h2.symm)
            · exact r2 x hx
          · exact .inr ⟨j + 1, e1, by simp only [Instr.findNow, hb, Instr.sameNow, if_true, beq_false_of_ne c, r1]; rw [Nat.add_assoc, Nat.add_comm 1 j], by simpa using r2, r3⟩
    rcases key es hes 0 with ⟨r1, r2⟩ | ⟨j, e, r1, r2, r3⟩
    · exact .inl ⟨by simp [Instr.findKey, run_underlying hk, r1], r2⟩
    · exact .inr ⟨j, e, by simp [Instr.findKey, run_underlying hk, r1], r2, r3⟩
  stays w {a} _ := by simp [Instr.keyThatStays, Instr.sameBits]

def ptrV (b : Nat) : Value := .pointer (some ⟨b, 0, none⟩)
def CellB (w : World) (b : Nat) : Prop := ∃ c t, w.heap[b]? = some (.cells c t (0, 0))

theorem rk_ptr {P : Program} {k te : TypeId} {j : TypeInfo} (hk : P.underlying k = some (.pointer te)) (hte : P.info? te = some j) (hsz : j.size ≠ 0) : RK P k ptrV CellB where
  inj {a b} h := by
    unfold ptrV at h
    simpa using h
  check w em {a} _ := by
    have h : ∀ n, (Instr.checkKey em (n + 1) k (ptrV a)).run P w = .ok () w := fun n => by simp [Instr.checkKey, run_underlying hk, ptrV]
    exact h 9999
  find w {a} ha es hes := by
    have hself : (Op.equal k (ptrV a) (ptrV a)).run P w = .ok true w := by
      have := run_eql_ptr_same w (P := P) ⟨a, 0, none⟩ hk hte
      have h : ∀ d : Nat, (Op.equalIn (d + 1) k (ptrV a) (ptrV a)).run P w = .ok true w := fun d => by
        simp [ptrV, Op.equalIn, run_underlying hk, sizeOf, typeInfo, hte, run_sameAddr_same]
      simp [Op.equal, Op.maxDepth, h 9999]
    have hoth : ∀ b, CellB w b → a ≠ b → (Op.equal k (ptrV a) (ptrV b)).run P w = .ok false w := by
      intro b hb hab
      obtain ⟨ca, ta, hca⟩ := ha
      obtain ⟨cb, tb, hcb⟩ := hb
      have h : ∀ d : Nat, (Op.equalIn (d + 1) k (ptrV a) (ptrV b)).run P w = .ok false w := fun d => by
        simp [ptrV, Op.equalIn, run_underlying hk, sizeOf, typeInfo, hte, hsz, run_sameAddr_other w (a := ⟨a, 0, none⟩) (b := ⟨b, 0, none⟩) (fun e => hab (by injection e)) hca hcb]
      simp [Op.equal, Op.maxDepth, h 9999]
    have key : ∀ (es : List MapEntry), (∀ e ∈ es, ∃ b, CellB w b ∧ e.key = ptrV b) → ∀ n : Nat, ((Instr.findAsking k (ptrV a) es n).run P w = .ok none w ∧ ∀ e ∈ es, e.key ≠ ptrV a) ∨ ∃ j e, (Instr.findAsking k (ptrV a) es n).run P w = .ok (some (n + j, e.val)) w ∧ es[j]? = some e ∧ e.key = ptrV a := by
      intro es
      induction es with
      | nil => intro _ n; exact .inl ⟨by simp [Instr.findAsking], by simp⟩
      | cons e es ih =>
        intro h n
        obtain ⟨b, hcb, hb⟩ := h e (by simp)
        by_cases c : a = b
        · subst c
          exact .inr ⟨0, e, by simp [Instr.findAsking, hb, hself], by simp, hb⟩
        · rcases ih (fun e he => h e (by simp [he])) (n + 1) with ⟨r1, r2⟩ | ⟨j, e1, r1, r2, r3⟩
          · refine .inl ⟨by simp [Instr.findAsking, hb, hoth b hcb c, r1], ?_⟩
            intro x hx
            simp only [List.mem_cons] at hx
            rcases hx with rfl | hx
            · rw [hb]; intro h2; unfold ptrV at h2; exact c (by simpa using h2.symm)
            · exact r2 x hx
          · exact .inr ⟨j + 1, e1, by simp [Instr.findAsking, hb, hoth b hcb c, r1]; omega, by simpa using r2, r3⟩
    cases es with
    | nil => exact .inl ⟨by simp [Instr.findKey, run_underlying hk, Instr.findNow], by simp⟩
    | cons e0 es0 =>
      obtain ⟨b0, _, hb0⟩ := hes e0 (by simp)
      have hnow : Instr.findNow (.pointer te) (ptrV a) (e0 :: es0) 0 = none := by simp [Instr.findNow, Instr.sameNow]
      rcases key (e0 :: es0) hes 0 with ⟨r1, r2⟩ | ⟨j, e, r1, r2, r3⟩
      · exact .inl ⟨by simp [Instr.findKey, run_underlying hk, hnow, r1], r2⟩
      · exact .inr ⟨j, e, by simp [Instr.findKey, run_underlying hk, hnow, r1], r2, r3⟩
  stays w {a} _ := by simp [Instr.keyThatStays, Instr.sameBits, ptrV]
end Go.Proofs.Qxb6608970aMods
