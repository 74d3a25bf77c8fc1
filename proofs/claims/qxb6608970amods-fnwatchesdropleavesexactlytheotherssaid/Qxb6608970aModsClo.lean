import Derived.Test.Qxb6608970aModsOth
namespace Go.Proofs.Qxb6608970aMods
open Go.RowKit
set_option linter.unusedVariables false
set_option maxRecDepth 100000

theorem info9 : (Trym.prog.info? 9).map (fun i => (i.zero, i.size, i.bytes)) = some (some (.string ByteArray.empty), 1, 16) := by kernel_rfl
theorem info47 : (Trym.prog.info? 47).map (fun i => (i.zero, i.size, i.bytes)) = some (some (.agg #[.string ByteArray.empty, .slice none 0 0]), 2, 40) := by kernel_rfl

def strF (N : List Str) (k : Nat) : Nat → Value := fun j => if j < k then .string (nm N j) else .string ByteArray.empty
/-- What a copy of strings comes to. -/
def CloneS (n : Nat) (N : List Str) (w : World) (e : Ending) (w' : World) : Prop := ∃ a', e = .returned (.slice a' n n) ∧ Below w.heap.size w w' ∧ (a' = none → n = 0) ∧ (0 < n → ∃ b, a' = some ⟨b, 0, none⟩ ∧ w.heap.size ≤ b ∧ w'.rowIs b 9 n (strF N n))

theorem clone19_nil (w : World) : Calls Trym.prog 19 #[.slice none 0 0] w (CloneS 0 [] w) := by
  have q := fun w => Lib.run_eql_slice_nil (P := Trym.prog) w 44 9 none 0 0 0 0 Trym.underlying44
  go_enter Trym.func19, Trym.ntmps19
  go_wp2
  go_ret
  exact ⟨none, rfl, Below.refl _ _, fun _ => rfl, fun h => by omega⟩

theorem strF_step {w : World} {b n k : Nat} {N : List Str} (h : w.rowIs b 9 n (strF N k)) : (w.setCell ⟨b, k, none⟩ (.string (nm N k))).rowIs b 9 n (strF N (k + 1)) := by
  refine (h.set k _).congr (fun i hi => ?_)
  unfold strF
  by_cases e1 : i = k
  · subst e1; simp
  · rw [if_neg e1]
    have : i < k ↔ i < k + 1 := by omega
    simp only [this]

set_option maxHeartbeats 1000000 in
theorem clone19_row (x : Addr) (n c : Nat) (N : List Str) (w : World) (hm : n ≤ 1048576) (hR : Hid (Strs w.heap.size w (some x) n N)) :
    Calls Trym.prog 19 #[.slice (some x) n c] w (CloneS n N w) := by
  have q := fun w n => Lib.run_eql_slice_nil (P := Trym.prog) w 44 9 (some x) n c 0 0 Trym.underlying44
  have hmk := run_make_row' (P := Trym.prog) 44 9 (.string ByteArray.empty) 16 Trym.underlying44 info9 rfl .i64 .i64 n (by omega) (by omega)
  go_enter Trym.func19, Trym.ntmps19
  go_wp2
  go_loopw [4] (fun i wr => ∃ k : Nat, k ≤ n ∧ i = .int .i64 k ∧ wr.rowIs w.heap.size 9 n (strF N k) ∧ Below w.heap.size w wr) (fun i _ => n - (intOf i).toNat)
  case atStart => exact ⟨0, Nat.zero_le _, rfl, (World.rowIs_made w (.string ByteArray.empty) n 9).congr (fun i hi => by simp [strF]), (Below.refl _ _).alloc (Nat.le_refl _) _⟩
  case round =>
    obtain ⟨k, hk, rfl, hrow, hb⟩ := hrel
    clear hmk q
    by_cases hlt : k < n
    · obtain ⟨b, o, hx, hbl, R⟩ := hR.out.row (by omega)
      cases hx
      have r1 := R k hlt
      clear R
      have hc1 : wr.cell? ⟨b, o + k, none⟩ = some (.string (nm N k)) := by rw [hb.cell (p := ⟨b, o + k, none⟩) hbl]; exact r1
      have hw1 := hrow.cell (i := k) hlt
      have hf1 := hrow.frozen k
      have HS : Hid ((wr.setCell ⟨w.heap.size, k, none⟩ (.string (nm N k))).rowIs w.heap.size 9 n (strF N (k + 1)) ∧ Below w.heap.size w (wr.setCell ⟨w.heap.size, k, none⟩ (.string (nm N k)))) := ⟨strF_step hrow, hb.setCell (Nat.le_refl _) _⟩
      clear hrow r1
      go_wp2
      go_round
      case rel => exact ⟨k + 1, by omega, by go_num, HS.out.1, HS.out.2⟩
      case measure => simp [intOf]; omega
    · obtain rfl : k = n := by omega
      have HS : Hid (CloneS k N w (.returned (.slice (some ⟨w.heap.size, 0, none⟩) k k)) wr) := ⟨_, rfl, hb, (fun h => by cases h), fun _ => ⟨_, rfl, Nat.le_refl _, hrow⟩⟩
      clear hrow hb
      go_wp2
      go_ret
      exact HS.out

theorem clone19 (a : Option Addr) (n c : Nat) (N : List Str) (w : World) (hm : n ≤ 1048576) (hR : Strs w.heap.size w a n N) (hc : a = none → n = 0 ∧ c = 0) :
    Calls Trym.prog 19 #[.slice a n c] w (CloneS n N w) := by
  cases a with
  | none =>
    obtain ⟨rfl, rfl⟩ := hc rfl
    have := hR.len
    obtain rfl : N = [] := List.length_eq_zero_iff.1 this
    exact clone19_nil w
  | some x => exact clone19_row x n c N w hm hR

/-- What the row of the copied others holds once the first k are in; the copied channels lie at As. -/
def othF (O : OthL) (As : Nat → Option Addr) (k : Nat) : Nat → Value := fun j => if j / 2 < k then (if j % 2 = 0 then .string (rN O (j / 2)) else .slice (As (j / 2)) (cN O (j / 2)).length (cN O (j / 2)).length) else (if j % 2 = 0 then .string ByteArray.empty else .slice none 0 0)

theorem run_make47 (n : Nat) (hn : n ≤ 1048577) (w : World) :
    (Instr.makeSlice 43 (.int .i64 (n : Int)) (.int .i64 (n : Int))).run Trym.prog w = .ok (.slice (some ⟨w.heap.size, 0, none⟩) n n) (w.alloc (.cells (madeCells #[.string ByteArray.empty, .slice none 0 0] (n * 2)) 47)) := by
  obtain ⟨i, hi, hzz⟩ := Option.map_eq_some_iff.1 info47
  simp only [Prod.mk.injEq] at hzz
  obtain ⟨hz, hs, hb⟩ := hzz
  have := run_makeSlice (P := Trym.prog) w 43 47 i _ Trym.underlying43 hi hz .i64 .i64 n n (by omega) (by omega) (by rw [hs]; omega) (by rw [hb]; omega) (by omega)
  rw [this, hs]
  rfl
theorem oth_made (w : World) (O : OthL) (As : Nat → Option Addr) (n : Nat) : (w.alloc (.cells (madeCells #[.string ByteArray.empty, .slice none 0 0] (n * 2)) 47)).rowIs w.heap.size 47 (n * 2) (othF O As 0) := by
  refine ⟨_, (MapKept.heap_alloc w _).1, size_madeCells _ _, fun i hi => ?_⟩
  unfold othF
  rw [if_neg (by omega)]
  rcases Nat.mod_two_eq_zero_or_one i with h | h <;> simp [madeCells, hi, h]
def updA (As : Nat → Option Addr) (k : Nat) (a : Option Addr) : Nat → Option Addr := fun i => if i = k then a else As i
theorem oth_step {w : World} {b n k : Nat} {O : OthL} {As : Nat → Option Addr} (a : Option Addr) (h : w.rowIs b 47 n (othF O As k)) : ((w.setCell ⟨b, k * 2, none⟩ (.string (rN O k))).setCell ⟨b, k * 2 + 1, none⟩ (.slice a (cN O k).length (cN O k).length)).rowIs b 47 n (othF O (updA As k a) (k + 1)) := by
  refine ((h.set (k * 2) _).set (k * 2 + 1) _).congr (fun i hi => ?_)
  unfold othF updA
  by_cases e1 : i = k * 2 + 1
  · subst e1
    have e2 : (k * 2 + 1) / 2 = k := by omega
    have e3 : (k * 2 + 1) % 2 = 1 := by omega
    simp [e2, e3]
  · by_cases e2 : i = k * 2
    · subst e2
      have e2 : (k * 2) / 2 = k := by omega
      have e3 : (k * 2) % 2 = 0 := by omega
      simp [e2, e3]
    · rw [if_neg e1, if_neg e2]
      by_cases c : i / 2 < k
      · have : i / 2 < k + 1 := by omega
        have h2 : ¬ i / 2 = k := by omega
        simp only [c, this, h2, if_true, if_false]
      · have : ¬ i / 2 < k + 1 := by omega
        simp only [c, this, if_false]

structure CloI (O : OthL) (n k : Nat) (w wr : World) : Prop where
  row : ∃ As, wr.rowIs w.heap.size 47 (n * 2) (othF O As k) ∧ ∀ i, i < k → (As i = none → (cN O i).length = 0) ∧ (0 < (cN O i).length → ∃ b, As i = some ⟨b, 0, none⟩ ∧ w.heap.size < b ∧ wr.rowIs b 9 (cN O i).length (strF (cN O i) (cN O i).length))
  bel : Below w.heap.size w wr

def CloneO (n : Nat) (O : OthL) (w : World) (e : Ending) (w' : World) : Prop := ∃ a', e = .returned (.slice a' n n) ∧ Oth w'.heap.size w' a' n O ∧ Below w.heap.size w w'

theorem clo_fin {O : OthL} {n : Nat} {w wr : World} (h : CloI O n n w wr) (hl : O.length = n) (hm : n ≤ 1048576) (hs : ∀ i, i < n → (rN O i).size ≤ 1048576 ∧ ShortS (cN O i) (cN O i).length) : CloneO n O w (.returned (.slice (some ⟨w.heap.size, 0, none⟩) n n)) wr := by
  obtain ⟨As, hr, hA⟩ := h.row
  refine ⟨_, rfl, ⟨hl, by unfold maxLen; omega, fun h0 => ⟨w.heap.size, 0, rfl, hr.lt, fun i hi => ?_⟩, fun i hi => by have := (hs i hi).1; unfold maxLen; omega⟩, h.bel⟩
  have h1 := hr.cell (i := i * 2) (by omega)
  have h2 := hr.cell (i := i * 2 + 1) (by omega)
  unfold othF at h1 h2
  have e2 : (i * 2 + 1) / 2 = i := by omega
  have e3 : (i * 2 + 1) % 2 = 1 := by omega
  have e4 : (i * 2) / 2 = i := by omega
  have e5 : (i * 2) % 2 = 0 := by omega
  simp only [e2, e3, e4, e5, hi, if_true] at h1 h2
  obtain ⟨g1, g2⟩ := hA i hi
  have g3 := (hs i hi).2
  refine ⟨by simpa using h1, As i, (cN O i).length, (cN O i).length, by simpa using h2, ⟨rfl, by have := g3.1; unfold maxLen; omega, fun hp => ?_, fun j hj => by have := g3.2 j hj; unfold maxLen; omega⟩, fun e => ⟨g1 e, g1 e⟩⟩
  obtain ⟨b, e, _, hb⟩ := g2 hp
  refine ⟨b, 0, e, hb.lt, fun j hj => ?_⟩
  have := hb.cell hj
  unfold strF at this
  rw [if_pos hj] at this
  simpa using this

theorem clone18_nil (w : World) : Calls Trym.prog 18 #[.slice none 0 0] w (CloneO 0 [] w) := by
  have q := fun w => Lib.run_eql_slice_nil (P := Trym.prog) w 43 47 none 0 0 0 0 Trym.underlying43
  go_enter Trym.func18, Trym.ntmps18
  go_wp2
  go_ret
  exact ⟨none, rfl, ⟨rfl, by unfold maxLen; omega, (fun h => by omega), (fun i h => by omega)⟩, Below.refl _ _⟩

/-- Behind the call of the copier in round k. -/
def Nxt19 (O : OthL) (n k b o : Nat) (x : Str) (ak : Option Addr) (lk ck : Nat) (w : World) (e : Ending) (w1 : World) : Prop :=
  ∃ a', e = .returned (.slice a' lk lk) ∧ w1.cell? ⟨b, o + k * 2, none⟩ = some (.string x) ∧ w1.cell? ⟨b, o + k * 2 + 1, none⟩ = some (.slice ak lk ck) ∧
    (∃ v1, w1.cell? ⟨w.heap.size, k * 2, none⟩ = some v1) ∧ (∃ v2, w1.cell? ⟨w.heap.size, k * 2 + 1, none⟩ = some v2) ∧ w1.frozen? ⟨w.heap.size, k * 2, none⟩ = false ∧ w1.frozen? ⟨w.heap.size, k * 2 + 1, none⟩ = false ∧
    Hid (CloI O n (k + 1) w ((w1.setCell ⟨w.heap.size, k * 2, none⟩ (.string x)).setCell ⟨w.heap.size, k * 2 + 1, none⟩ (.slice a' lk lk)))

theorem nxt19 {O : OthL} {n k b o : Nat} {ak : Option Addr} {lk ck : Nat} {w wr : World} (hk : k < n) (h : CloI O n k w wr) (hb : b < w.heap.size) (hx : OthAt w.heap.size w b (o + k * 2) (rN O k) (cN O k)) (hS : Strs w.heap.size w ak lk (cN O k)) (hcy : w.cell? ⟨b, o + k * 2 + 1, none⟩ = some (.slice ak lk ck)) (hn : ak = none → lk = 0 ∧ ck = 0) (hm : lk ≤ 1048576) :
    Calls Trym.prog 19 #[.slice ak lk ck] wr.drew (Nxt19 O n k b o (rN O k) ak lk ck w) := by
  have hbe := h.bel
  have hsz := hbe.size
  have hS2 : Strs wr.drew.heap.size wr.drew ak lk (cN O k) := (hS.below (w' := wr.drew) ⟨hbe.os, hbe.tape, hbe.output, hbe.size, hbe.block⟩).mono hsz
  refine (clone19 ak lk ck (cN O k) wr.drew hm hS2 hn).mono ?_
  rintro e w1 ⟨a', rfl, hb1, hnil, hrow⟩
  obtain ⟨As, hr, hA⟩ := h.row
  have hlt := hr.lt
  have hl := hS.len
  have hr1 : w1.rowIs w.heap.size 47 (n * 2) (othF O As k) := hr.of_block (hb1.block _ hlt)
  have hbw : Below w.heap.size w w1 := hbe.trans (⟨hb1.os, hb1.tape, hb1.output, hb1.size, fun j hj => hb1.block j (Nat.lt_of_lt_of_le hj hsz)⟩)
  refine ⟨a', rfl, by rw [hbw.cell (p := ⟨b, o + k * 2, none⟩) hb]; exact hx.c0, by rw [hbw.cell (p := ⟨b, o + k * 2 + 1, none⟩) hb]; exact hcy, ⟨_, hr1.cell (i := k * 2) (by omega)⟩, ⟨_, hr1.cell (i := k * 2 + 1) (by omega)⟩, hr1.frozen _, hr1.frozen _, ⟨updA As k a', ?_, ?_⟩, (hbw.setCell (Nat.le_refl _) _).setCell (Nat.le_refl _) _⟩
  · have := oth_step a' hr1
    rw [hl] at this
    exact this
  · intro i hi
    unfold updA
    by_cases c : i = k
    · subst c
      rw [if_pos rfl, hl]
      refine ⟨hnil, fun h0 => ?_⟩
      obtain ⟨b', e, hlo, hr'⟩ := hrow h0
      have hlo' : wr.heap.size ≤ b' := hlo
      have hne : b' ≠ w.heap.size := by omega
      exact ⟨b', e, by omega, (hr'.setOther hne _).setOther hne _⟩
    · rw [if_neg c]
      obtain ⟨g1, g2⟩ := hA i (by omega)
      refine ⟨g1, fun h0 => ?_⟩
      obtain ⟨b', e, hlo, hr'⟩ := g2 h0
      have hne : b' ≠ w.heap.size := by omega
      have hr2 : w1.rowIs b' 9 _ _ := hr'.of_block (hb1.block b' hr'.lt)
      exact ⟨b', e, hlo, (hr2.setOther hne _).setOther hne _⟩

theorem keep2 {w1 : World} {b bs o o1 o2 : Nat} {u1 u2 v : Value} (hne : b ≠ bs) (h : w1.cell? ⟨b, o, none⟩ = some v) : ((w1.setCell ⟨bs, o1, none⟩ u1).setCell ⟨bs, o2, none⟩ u2).cell? ⟨b, o, none⟩ = some v := by
  rw [World.cell?_of_block (a := ⟨b, o, none⟩) (Below.heap_setCell _ _ _ _ hne), World.cell?_of_block (a := ⟨b, o, none⟩) (Below.heap_setCell _ _ _ _ hne)]
  exact h

set_option maxHeartbeats 2000000 in
theorem clone18_row (x : Addr) (n c : Nat) (O : OthL) (w : World) (hm : n ≤ 1048576) (hR : Hid (Oth w.heap.size w (some x) n O)) (hS : Hid (∀ i, i < n → (rN O i).size ≤ 1048576 ∧ ShortS (cN O i) (cN O i).length)) :
    Calls Trym.prog 18 #[.slice (some x) n c] w (CloneO n O w) := by
  have q := fun w n => Lib.run_eql_slice_nil (P := Trym.prog) w 43 47 (some x) n c 0 0 Trym.underlying43
  have hmk := run_make47 n (by omega)
  go_enter Trym.func18, Trym.ntmps18
  go_wp2
  go_loopw [4] (fun i wr => ∃ k : Nat, k ≤ n ∧ i = .int .i64 k ∧ CloI O n k w wr) (fun i _ => n - (intOf i).toNat)
  case atStart => exact ⟨0, Nat.zero_le _, rfl, ⟨fun _ => none, oth_made w O _ n, fun i hi => absurd hi (Nat.not_lt_zero _)⟩, (Below.refl _ _).alloc (Nat.le_refl _) _⟩
  case round =>
    obtain ⟨k, hk, rfl, hci⟩ := hrel
    have HCI : Hid (CloI O n k w wr) := hci
    clear hmk q hci
    by_cases hlt : k < n
    · obtain ⟨b, o, hx, hbl, R⟩ := hR.out.row (by omega)
      cases hx
      have rk := R k hlt
      obtain ⟨ak, lk, ck, hcy0, hst, hnn⟩ := rk.c1
      have hll := hst.len
      have hml : lk ≤ 1048576 := by rw [← hll]; exact (hS.out k hlt).2.1
      have HC19 : Hid (Calls Trym.prog 19 #[.slice ak lk ck] wr.drew (Nxt19 O n k b o (rN O k) ak lk ck w)) := nxt19 hlt HCI.out hbl rk hst hcy0 hnn hml
      have hc1 : wr.cell? ⟨b, o + k * 2, none⟩ = some (.string (rN O k)) := by rw [HCI.out.bel.cell (p := ⟨b, o + k * 2, none⟩) hbl]; exact rk.c0
      have hc2 : wr.cell? ⟨b, o + k * 2 + 1, none⟩ = some (.slice ak lk ck) := by rw [HCI.out.bel.cell (p := ⟨b, o + k * 2 + 1, none⟩) hbl]; exact hcy0
      have hz1 : (0 : Int) ≤ (k : Int) := by omega
      have hz2 : (k : Int) < (n : Int) := by omega
      have hne : b ≠ w.heap.size := by omega
      generalize rN O k = x at *
      clear R rk hst hnn hll hcy0 HCI hml
      go_wp2_with fail
      go_region_held3 (fun w' => w'.cell? ⟨b, o + k * 2, none⟩ = some (.string x) ∧ w'.cell? ⟨b, o + k * 2 + 1, none⟩ = some (.slice ak lk ck)) (first | go_keep | (exact ⟨keep2 hne hk1, keep2 hne hk2⟩))
        (first | (go_at_call 19; refine HC19.out.mono ?_; rintro e w1 ⟨a', rfl, hk1, hk2, ⟨v1, hk3⟩, ⟨v2, hk4⟩, hk5, hk6, HF⟩))
      clear HC19 hk1 hk2 hk3 hk4 hk5 hk6 hc1 hc2
      generalize ((w1.setCell ⟨w.heap.size, k * 2, none⟩ (.string x)).setCell ⟨w.heap.size, k * 2 + 1, none⟩ (.slice a' lk lk)) = V at *
      go_wp2_with fail
      go_roundw
      case rel => exact ⟨k + 1, by omega, by go_num, HF.out⟩
      case measure => simp [intOf]; omega
    · obtain rfl : k = n := by omega
      have HS : Hid (CloneO k O w (.returned (.slice (some ⟨w.heap.size, 0, none⟩) k k)) wr) := clo_fin HCI.out hR.out.len hm hS.out
      clear HCI
      go_wp2
      go_ret
      exact HS.out

theorem clone18 (a : Option Addr) (n c : Nat) (O : OthL) (w : World) (hm : n ≤ 1048576) (hR : Oth w.heap.size w a n O) (hS : ∀ i, i < n → (rN O i).size ≤ 1048576 ∧ ShortS (cN O i) (cN O i).length) (hc : a = none → n = 0 ∧ c = 0) :
    Calls Trym.prog 18 #[.slice a n c] w (CloneO n O w) := by
  cases a with
  | none =>
    obtain ⟨rfl, rfl⟩ := hc rfl
    have := hR.len
    obtain rfl : O = [] := List.length_eq_zero_iff.1 this
    exact clone18_nil w
  | some x => exact clone18_row x n c O w hm hR hS
end Go.Proofs.Qxb6608970aMods
