import Derived.Test.Qxb6608970aModsAdd
import Derived.Deep.LoopGhost
import Derived.Deep.OwnRows
import Derived.Deep.DeepCutAuto
namespace Go.Proofs.Qxb6608970aMods
open Go.RowKit
set_option linter.unusedVariables false
set_option maxRecDepth 100000

abbrev EntL := List (Str × Int)
def eN (E : EntL) (i : Nat) : Str := (E.getD i (ByteArray.empty, 0)).1
def eI (E : EntL) (i : Nat) : Int := (E.getD i (ByteArray.empty, 0)).2

/-- A slice of entries: n of them, those of E. -/
structure Ents (w : World) (a : Option Addr) (n : Nat) (E : EntL) : Prop where
  len : E.length = n
  max : n ≤ maxLen
  row : 0 < n → ∃ b o, a = some ⟨b, o, none⟩ ∧ b < w.heap.size ∧ ∀ i, i < n → w.cell? ⟨b, o + i * 2, none⟩ = some (.string (eN E i)) ∧ w.cell? ⟨b, o + i * 2 + 1, none⟩ = some (.int .i64 (eI E i))
  sz : ∀ i, i < n → (eN E i).size ≤ maxLen

theorem Ents.below {w w' : World} {a : Option Addr} {n : Nat} {E : EntL} (h : Ents w a n E) (hb : Below w.heap.size w w') : Ents w' a n E :=
  ⟨h.len, h.max, fun h0 => by
    obtain ⟨b, o, e, hl, hc⟩ := h.row h0
    exact ⟨b, o, e, Nat.lt_of_lt_of_le hl hb.size, fun i hi => by rw [hb.cell (p := ⟨b, o + i * 2, none⟩) hl, hb.cell (p := ⟨b, o + i * 2 + 1, none⟩) hl]; exact hc i hi⟩, h.sz⟩

def Short (E : EntL) (n : Nat) (s : Str) : Prop := n ≤ 1048576 ∧ (∀ i, i < n → (eN E i).size ≤ 1048576) ∧ s.size ≤ 1048576
def BytesPost (E : EntL) (n : Nat) (s : Str) (w : World) (e : Ending) (w' : World) : Prop := ∃ q : Bool, e = .returned (.bool q) ∧ (q = true → Short E n s) ∧ w' = w

set_option maxHeartbeats 2000000 in
theorem bytes13 (a0 : Option Addr) (n c0 : Nat) (E : EntL) (s : ByteArray) (id : Int) (w : World) (r0 : Hid (Ents w a0 n E)) (hs : s.size ≤ maxLen) :
    Calls Trym.prog 13 #[.slice a0 n c0, .string s, .int .i64 id] w (BytesPost E n s w) := by
  have m0 := r0.out.max
  unfold maxLen at m0 hs
  have NO : Hid (∀ e w', (∃ q : Bool, q = false ∧ e = .returned (.bool q) ∧ w' = w) → BytesPost E n s w e w') := fun e w' ⟨q, h1, h2, h3⟩ => ⟨q, h2, (fun h => by rw [h1] at h; cases h), h3⟩
  by_cases hn : n ≤ 1048576
  · go_enter Trym.func13, Trym.ntmps13
    go_wp2_with fail
    go_loop [7, 8] (fun t i => ∃ (k T : Nat), k ≤ n ∧ T ≤ 1048576 ∧ i = .int .i64 k ∧ t = .int .i64 T ∧ Hid (∀ j, j < k → (eN E j).size ≤ 1048576)) (fun _ i => n - (intOf i).toNat)
    case atStart => exact ⟨0, n, Nat.zero_le _, hn, rfl, rfl, fun j hj => absurd hj (Nat.not_lt_zero _)⟩
    case round =>
      obtain ⟨k, T, hk, hT, rfl, rfl, HA⟩ := hrel
      by_cases hlt : k < n
      · obtain ⟨b, o, rfl, _, R⟩ := r0.out.row (by omega)
        have hcx := (R k hlt).1
        have hsx := r0.out.sz k hlt
        unfold maxLen at hsx
        clear R
        obtain ⟨x, hx⟩ : ∃ x, x = eN E k := ⟨_, rfl⟩
        rw [← hx] at hcx hsx
        have HX : Hid (x = eN E k) := hx
        clear hx
        by_cases h1 : 1048576 < x.size
        · go_wp2
          go_ret
          exact NO.out _ _ ⟨false, rfl, rfl, rfl⟩
        · by_cases h2 : 1048576 < T + x.size
          · go_wp2
            go_ret
            exact NO.out _ _ ⟨false, rfl, rfl, rfl⟩
          · go_wp2
            go_round
            case rel =>
              refine ⟨k + 1, T + x.size, by omega, by omega, by go_num, by go_num, fun j hj => ?_⟩
              by_cases e : j = k
              · subst e; rw [← HX.out]; omega
              · exact HA.out j (by omega)
            case measure => simp [intOf]; omega
      · obtain rfl : k = n := by omega
        by_cases h1 : 1048576 < s.size
        · go_wp2_with fail
          go_ret
          exact NO.out _ _ ⟨false, rfl, rfl, rfl⟩
        · by_cases h2 : 1048576 < T + s.size
          · go_wp2_with fail
            go_ret
            exact NO.out _ _ ⟨false, rfl, rfl, rfl⟩
          · go_wp2_with fail
            go_ret
            exact ⟨true, rfl, fun _ => ⟨hn, HA.out, by omega⟩, rfl⟩
  · go_enter Trym.func13, Trym.ntmps13
    go_wp2_with fail
    go_ret
    exact NO.out _ _ ⟨false, rfl, rfl, rfl⟩

/-- What an own row of entries holds once the first k are in. -/
def entF (E : EntL) (k : Nat) : Nat → Value := fun j => if j / 2 < k then (if j % 2 = 0 then .string (eN E (j / 2)) else .int .i64 (eI E (j / 2))) else (if j % 2 = 0 then .string ByteArray.empty else .int .i64 0)

theorem info32 : (Trym.prog.info? 32).map (fun i => (i.zero, i.size, i.bytes)) = some (some (.agg #[.string ByteArray.empty, .int .i64 0]), 2, 24) := by kernel_rfl

theorem run_make32 (n : Nat) (hn : n ≤ 1048577) (w : World) :
    (Instr.makeSlice 29 (.int .i64 (n : Int)) (.int .i64 (n : Int))).run Trym.prog w = .ok (.slice (some ⟨w.heap.size, 0, none⟩) n n) (w.alloc (.cells (madeCells #[.string ByteArray.empty, .int .i64 0] (n * 2)) 32)) := by
  obtain ⟨i, hi, hzz⟩ := Option.map_eq_some_iff.1 info32
  simp only [Prod.mk.injEq] at hzz
  obtain ⟨hz, hs, hb⟩ := hzz
  have := run_makeSlice (P := Trym.prog) w 29 32 i _ Trym.underlying29 hi hz .i64 .i64 n n (by omega) (by omega) (by rw [hs]; omega) (by rw [hb]; omega) (by omega)
  rw [this, hs]
  rfl

theorem ents_made (w : World) (E : EntL) (n : Nat) : (w.alloc (.cells (madeCells #[.string ByteArray.empty, .int .i64 0] (n * 2)) 32)).rowIs w.heap.size 32 (n * 2) (entF E 0) := by
  refine ⟨_, (MapKept.heap_alloc w _).1, size_madeCells _ _, fun i hi => ?_⟩
  unfold entF
  rw [if_neg (by omega)]
  rcases Nat.mod_two_eq_zero_or_one i with h | h <;> simp [madeCells, hi, h]

theorem ents_step {w : World} {b n k : Nat} {E : EntL} (h : w.rowIs b 32 n (entF E k)) : ((w.setCell ⟨b, k * 2, none⟩ (.string (eN E k))).setCell ⟨b, k * 2 + 1, none⟩ (.int .i64 (eI E k))).rowIs b 32 n (entF E (k + 1)) := by
  refine ((h.set (k * 2) _).set (k * 2 + 1) _).congr (fun i hi => ?_)
  unfold entF
  by_cases e1 : i = k * 2 + 1
  · subst e1
    have e2 : (k * 2 + 1) / 2 = k := by omega
    have e3 : (k * 2 + 1) % 2 = 1 := by omega
    simp [e2, e3]
  · by_cases e2 : i = k * 2
    · subst e2
      have e2 : (k * 2) / 2 = k := by omega
      have e3 : (k * 2) % 2 = 0 := by omega
      simp [e2, e3]
    · rw [if_neg e1, if_neg e2]
      have : i / 2 < k ↔ i / 2 < k + 1 := by omega
      simp only [this]

theorem ents_of_row {w : World} {b n : Nat} {E : EntL} (h : w.rowIs b 32 (n * 2) (entF E n)) (hl : E.length = n) (hm : n ≤ maxLen) (hs : ∀ i, i < n → (eN E i).size ≤ maxLen) : Ents w (some ⟨b, 0, none⟩) n E := by
  refine ⟨hl, hm, fun _ => ⟨b, 0, rfl, h.lt, fun i hi => ?_⟩, hs⟩
  have h1 := h.cell (i := i * 2) (by omega)
  have h2 := h.cell (i := i * 2 + 1) (by omega)
  unfold entF at h1 h2
  have e2 : (i * 2 + 1) / 2 = i := by omega
  have e3 : (i * 2 + 1) % 2 = 1 := by omega
  have e4 : (i * 2) / 2 = i := by omega
  have e5 : (i * 2) % 2 = 0 := by omega
  simp only [e2, e3, e4, e5, hi, if_true] at h1 h2
  simp only [Nat.zero_add]
  exact ⟨h1, by simpa using h2⟩

/-- What a copy comes to. -/
def ClonePost (n : Nat) (E : EntL) (w : World) (e : Ending) (w' : World) : Prop := ∃ a', e = .returned (.slice a' n n) ∧ Below w.heap.size w w' ∧ (0 < n → ∃ b, a' = some ⟨b, 0, none⟩ ∧ w'.rowIs b 32 (n * 2) (entF E n))

theorem clone14_nil (w : World) : Calls Trym.prog 14 #[.slice none 0 0] w (ClonePost 0 [] w) := by
  have q := fun w => Lib.run_eql_slice_nil (P := Trym.prog) w 29 32 none 0 0 0 0 Trym.underlying29
  go_enter Trym.func14, Trym.ntmps14
  go_wp2
  go_ret
  exact ⟨none, rfl, Below.refl _ _, fun h => by omega⟩

set_option maxHeartbeats 1000000 in
theorem clone14_row (x : Addr) (n c : Nat) (E : EntL) (w : World) (hm : n ≤ 1048576) (hR : Hid (Ents w (some x) n E)) :
    Calls Trym.prog 14 #[.slice (some x) n c] w (ClonePost n E w) := by
  have q := fun w n => Lib.run_eql_slice_nil (P := Trym.prog) w 29 32 (some x) n c 0 0 Trym.underlying29
  have hmk := run_make32 n (by omega)
  go_enter Trym.func14, Trym.ntmps14
  go_wp2
  go_loopw [4] (fun i wr => ∃ k : Nat, k ≤ n ∧ i = .int .i64 k ∧ wr.rowIs w.heap.size 32 (n * 2) (entF E k) ∧ Below w.heap.size w wr) (fun i _ => n - (intOf i).toNat)
  case atStart => exact ⟨0, Nat.zero_le _, rfl, ents_made w E n, (Below.refl _ _).alloc (Nat.le_refl _) _⟩
  case round =>
    obtain ⟨k, hk, rfl, hrow, hb⟩ := hrel
    clear hmk q
    by_cases hlt : k < n
    · obtain ⟨b, o, hx, hbl, R⟩ := hR.out.row (by omega)
      cases hx
      obtain ⟨r1, r2⟩ := R k hlt
      clear R
      have hc1 : wr.cell? ⟨b, o + k * 2, none⟩ = some (.string (eN E k)) := by rw [hb.cell (p := ⟨b, o + k * 2, none⟩) hbl]; exact r1
      have hc2 : wr.cell? ⟨b, o + k * 2 + 1, none⟩ = some (.int .i64 (eI E k)) := by rw [hb.cell (p := ⟨b, o + k * 2 + 1, none⟩) hbl]; exact r2
      have hw1 := hrow.cell (i := k * 2) (by omega)
      have hw2 := hrow.cell (i := k * 2 + 1) (by omega)
      have hf1 := hrow.frozen (k * 2)
      have hf2 := hrow.frozen (k * 2 + 1)
      have HS : Hid (((wr.setCell ⟨w.heap.size, k * 2, none⟩ (.string (eN E k))).setCell ⟨w.heap.size, k * 2 + 1, none⟩ (.int .i64 (eI E k))).rowIs w.heap.size 32 (n * 2) (entF E (k + 1)) ∧ Below w.heap.size w ((wr.setCell ⟨w.heap.size, k * 2, none⟩ (.string (eN E k))).setCell ⟨w.heap.size, k * 2 + 1, none⟩ (.int .i64 (eI E k)))) :=
        ⟨ents_step hrow, (hb.setCell (Nat.le_refl _) _).setCell (Nat.le_refl _) _⟩
      clear hrow r1 r2
      go_wp2
      go_round
      case rel => exact ⟨k + 1, by omega, by go_num, HS.out.1, HS.out.2⟩
      case measure => simp [intOf]; omega
    · obtain rfl : k = n := by omega
      have HS : Hid (ClonePost k E w (.returned (.slice (some ⟨w.heap.size, 0, none⟩) k k)) wr) := ⟨_, rfl, hb, fun _ => ⟨_, rfl, hrow⟩⟩
      clear hrow hb
      go_wp2
      go_ret
      exact HS.out

theorem clone14 (a : Option Addr) (n c : Nat) (E : EntL) (w : World) (hm : n ≤ 1048576) (hR : Ents w a n E) (hc : a = none → n = 0 ∧ c = 0) :
    Calls Trym.prog 14 #[.slice a n c] w (ClonePost n E w) := by
  cases a with
  | none =>
    obtain ⟨rfl, rfl⟩ := hc rfl
    have := hR.len
    obtain rfl : E = [] := List.length_eq_zero_iff.1 this
    exact clone14_nil w
  | some x => exact clone14_row x n c E w hm hR

/-- The pool: which watch stands for a number. -/
structure Pool (base : Nat) (w : World) (bp : Nat) (Q : Int → Option Nat) : Prop where
  map : ∃ s, RMap w bp (fun n : Int => Value.int .i64 n) (fun i => (Q i).map ptrV) s
  cell : ∀ i b, Q i = some b → CellB w b
  inj : ∀ i j b, Q i = some b → Q j = some b → i = j
  lo : base ≤ bp

theorem Pool.lt {base : Nat} {w : World} {bp : Nat} {Q : Int → Option Nat} (h : Pool base w bp Q) : bp < w.heap.size := by
  obtain ⟨s, hs⟩ := h.map; exact hs.lt
theorem Pool.notCell {base : Nat} {w : World} {bp : Nat} {Q : Int → Option Nat} (h : Pool base w bp Q) : ¬ CellB w bp := by
  obtain ⟨s, hs⟩ := h.map; exact hs.notCell
theorem Pool.frm {base : Nat} {w w' : World} {bp : Nat} {Q : Int → Option Nat} (h : Pool base w bp Q) {p : Nat → Prop} (f : Frm w w' p) (hp : ¬ p bp) (hc : ∀ b, CellB w b → ¬ p b) : Pool base w' bp Q := by
  obtain ⟨s, hs⟩ := h.map
  exact ⟨⟨s, hs.frm f hp⟩, fun i b e => (h.cell i b e).frm f (hc b (h.cell i b e)), h.inj, h.lo⟩
theorem Pool.made {base : Nat} (w : World) (hb : base ≤ w.heap.size) : Pool base (w.alloc (.map #[] 0)) w.heap.size (fun _ => none) :=
  ⟨⟨0, RMap.made w _⟩, (fun i b e => by cases e), (fun i j b e => by cases e), hb⟩
theorem Pool.look {base : Nat} {w : World} {bp : Nat} {Q : Int → Option Nat} (h : Pool base w bp Q) (i : Int) :
    (Instr.lookup 36 (.map (some bp)) (.int .i64 i) false).run Trym.prog w = .ok (.pointer ((Q i).map (fun b => ⟨b, 0, none⟩))) w := by
  obtain ⟨s, hs⟩ := h.map
  have := hs.look ki Trym.underlying36 (zero38 w) (fun _ _ => trivial) (a := i) trivial false
  rw [this]
  cases Q i <;> rfl

def WatchPost (base bp : Nat) (Q : Int → Option Nat) (i : Int) (w : World) (e : Ending) (w' : World) : Prop :=
  ∃ b Q', e = .returned (.pointer (some ⟨b, 0, none⟩)) ∧ Pool base w' bp Q' ∧ Q' i = some b ∧ (∀ j c, Q j = some c → Q' j = some c) ∧ Frm w w' (fun k => k = bp)

theorem watch16_some (base bp b : Nat) (Q : Int → Option Nat) (i : Int) (w : World) (h : Hid (Pool base w bp Q)) (e : Hid (Q i = some b)) :
    Calls Trym.prog 16 #[.map (some bp), .int .i64 i] w (WatchPost base bp Q i w) := by
  have hl := h.out.look i
  rw [e.out] at hl
  simp only [Option.map_some] at hl
  go_enter Trym.func16, Trym.ntmps16
  go_wp2
  go_ret
  exact ⟨b, Q, rfl, h.out, e.out, fun j c h => h, Frm.refl _ _⟩

theorem watch16_none (base bp : Nat) (Q : Int → Option Nat) (i : Int) (w : World) (h : Hid (Pool base w bp Q)) (e : Hid (Q i = none)) :
    Calls Trym.prog 16 #[.map (some bp), .int .i64 i] w (WatchPost base bp Q i w) := by
  have hl := h.out.look i
  rw [e.out] at hl
  simp only [Option.map_none] at hl
  obtain ⟨w1, hw1⟩ : ∃ w1, w1 = w.alloc (.cells (watchCells { data := #[] } none 0 0 false) 73) := ⟨_, rfl⟩
  have f1 : Frm w w1 (fun _ => False) := by rw [hw1]; exact Frm.alloc _ _ _
  have HC : Hid (Calls Trym.prog 23 #[.string { data := #[] }, .slice none 0 0] w fun e w' => e = .returned (.pointer (some ⟨w.heap.size, 0, none⟩)) ∧ w' = w1) := by
    rw [hw1]; exact new23 _ _ _ _ _
  have hnew : CellB w1 w.heap.size := by rw [hw1]; exact ⟨_, _, (MapKept.heap_alloc w _).1⟩
  clear hw1
  obtain ⟨s, hs⟩ := h.out.map
  have hlt := hs.lt
  obtain ⟨w2, hrun, hM, hg⟩ := (hs.frm f1 (fun h => h)).put ki Trym.underlying36 (fun _ _ => trivial) (a := i) trivial (ptrV w.heap.size)
  have f2 := Frm.of_grown hg
  have HF : Hid (WatchPost base bp Q i w (.returned (.pointer (some ⟨w.heap.size, 0, none⟩))) w2) := by
    refine ⟨w.heap.size, (fun j => if j = i then some w.heap.size else Q j), rfl, ⟨⟨?_, ?_⟩, ?_, ?_, h.out.lo⟩, by simp, ?_, (f1.trans f2).imp (fun k _ h => by rcases h with h | h; exact h.elim; exact h)⟩
    · exact if ((Q i).map ptrV).isSome then s else s + 1
    · have e1 : (fun j => ((if j = i then some w.heap.size else Q j : Option Nat)).map ptrV) = updK (fun i => (Q i).map ptrV) i (ptrV w.heap.size) := by
        funext j
        unfold updK
        by_cases c : j = i <;> simp [c]
      rw [e1]
      exact hM
    · intro j b' e'
      by_cases c : j = i
      · rw [if_pos c] at e'
        cases e'
        exact hnew.frm f2 (by omega)
      · rw [if_neg c] at e'
        have hcb := h.out.cell j b' e'
        exact (hcb.frm f1 (fun h => h)).frm f2 (fun e2 => h.out.notCell (e2 ▸ hcb))
    · intro j1 j2 b' e1 e2
      have hne : ∀ j, Q j ≠ some w.heap.size := fun j ej => Nat.lt_irrefl _ (h.out.cell j _ ej).lt
      by_cases c1 : j1 = i
      · by_cases c2 : j2 = i
        · rw [c1, c2]
        · rw [if_pos c1] at e1
          rw [if_neg c2] at e2
          cases e1
          exact absurd e2 (hne _)
      · by_cases c2 : j2 = i
        · rw [if_neg c1] at e1
          rw [if_pos c2] at e2
          cases e2
          exact absurd e1 (hne _)
        · rw [if_neg c1] at e1
          rw [if_neg c2] at e2
          exact h.out.inj _ _ _ e1 e2
    · intro j c ej
      by_cases c1 : j = i
      · subst c1
        rw [e.out] at ej
        cases ej
      · simp only [c1, if_false]; exact ej
  simp only [ptrV] at hrun
  clear hM hg h e f1 f2 hs hnew hlt
  go_enter Trym.func16, Trym.ntmps16
  go_wp2_with fail
  refine HC.out.mono ?_
  rintro e w' ⟨rfl, rfl⟩
  go_wp2_with fail
  go_ret
  exact HF.out

theorem watch16 (base bp : Nat) (Q : Int → Option Nat) (i : Int) (w : World) (h : Hid (Pool base w bp Q)) :
    Calls Trym.prog 16 #[.map (some bp), .int .i64 i] w (WatchPost base bp Q i w) := by
  cases e : Q i with
  | none => exact watch16_none base bp Q i w h e
  | some b => exact watch16_some base bp b Q i w h e
end Go.Proofs.Qxb6608970aMods
