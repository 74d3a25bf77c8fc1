import Derived.Test.Qxb6608597aModsMap
namespace Go.Proofs.Qxb6608597aMods
open Go.RowKit Go.Maps
set_option linter.unusedVariables false

theorem run_eql_nil67 (w : World) (m : Option Nat) : (binOp .eql 67 (.map m) (.map none)).run Trym.prog w = .ok (.bool m.isNone) w := by
  exact run_eql_map_nil w 67 27 3 m Trym.underlying67

theorem of16 (m : Option Nat) (w : World) :
    Calls Trym.prog 16 #[.map m] w fun e w' => e = .returned (.pointer (some ⟨w.heap.size, 0, none⟩)) ∧ w' = w.alloc (.cells #[.map m] 67) := by
  go_enter Trym.func16, Trym.ntmps16
  go_wp2
  go_ret
  exact ⟨rfl, rfl⟩

theorem isnil18 (cb : Nat) (m : Option Nat) (w : World) (hc : w.cell? ⟨cb, 0, none⟩ = some (.map m)) :
    Calls Trym.prog 18 #[.pointer (some ⟨cb, 0, none⟩)] w fun e w' => e = .returned (.bool m.isNone) ∧ w' = w := by
  have q := fun w m => run_eql_nil67 w m
  go_enter Trym.func18, Trym.ntmps18
  go_wp2
  go_ret
  exact ⟨rfl, rfl⟩

def GetPost (f : Int → Option Int) (x : Int) (w : World) (e : Ending) (w' : World) : Prop := e = .returned (.tuple #[.int .i64 ((f x).getD 0), .bool (f x).isSome]) ∧ w' = w

theorem get19 (cb : Nat) (m : Option Nat) (n s : Nat) (f : Int → Option Int) (x : Int) (w : World) (hc : Hid (Cnt w cb m n f s)) (hx : Hid (Fits x)) :
    Calls Trym.prog 19 #[.pointer (some ⟨cb, 0, none⟩), .int .u64 x] w (GetPost f x w) := by
  have c0 := hc.out.cell
  rcases hc.out.map with ⟨rfl, _, hf⟩ | ⟨b, rfl, _, hM⟩
  · have HF : Hid (f x = none) := hf x
    have hl := Maps.look_nil (P := Trym.prog) (w := w) (t := 67) true law Trym.underlying67 (zero3 w) (keyOf_int_mk Trym.underlying27 hx.out)
    simp only [if_true] at hl
    clear hf
    go_enter Trym.func19, Trym.ntmps19
    go_wp2
    go_ret2
    exact ⟨by rw [HF.out]; rfl, rfl⟩
  · have hl := hM.look (t := 67) Trym.underlying67 hx.out
    generalize hg : (f x).getD 0 = c at *
    generalize hg2 : (f x).isSome = q at *
    have HG : Hid ((f x).getD 0 = c ∧ (f x).isSome = q) := ⟨hg, hg2⟩
    clear hg hg2 hM
    go_enter Trym.func19, Trym.ntmps19
    go_wp2
    go_ret2
    exact ⟨by rw [HG.out.1, HG.out.2]; rfl, rfl⟩

theorem len20 (cb : Nat) (m : Option Nat) (n s : Nat) (f : Int → Option Int) (w : World) (hc : Hid (Cnt w cb m n f s)) :
    Calls Trym.prog 20 #[.pointer (some ⟨cb, 0, none⟩)] w fun e w' => e = .returned (.int .i64 s) ∧ w' = w := by
  have c0 := hc.out.cell
  rcases hc.out.map with ⟨rfl, rfl, hf⟩ | ⟨b, rfl, _, hM⟩
  · have hl := fun ty => Maps.len_nil (P := Trym.prog) (w := w) (t := 67) Trym.underlying67 ty
    clear hf
    go_enter Trym.func20, Trym.ntmps20
    go_wp2
    go_ret
    exact ⟨rfl, rfl⟩
  · obtain ⟨D, hown, _, rfl⟩ := hM
    have HO : Hid (w.ownsMap Trym.prog 27 (plainElem Trym.prog 3) b n D) := hown
    clear hown
    go_enter Trym.func20, Trym.ntmps20
    go_wp2_with (at_len; refine wpList_len_own _ rfl _ 67 rfl 27 3 Trym.underlying67 _ b n D rfl HO.out ?_)
    go_ret
    exact ⟨rfl, rfl⟩

def AddPost (cb : Nat) (m : Option Nat) (n s : Nat) (f : Int → Option Int) (x : Int) (w : World) (e : Ending) (w' : World) : Prop :=
  e = .returned (.tuple #[]) ∧ ∃ b, Cnt w' cb (some b) (n + 1) (upd f x (wrap64 ((f x).getD 0 + 1))) (if (f x).isSome then s else s + 1) ∧ Frm w w' (fun k => k = cb ∨ m = some k) ∧ (m = some b ∨ (m = none ∧ b = w.heap.size))

theorem one_cell {w : World} {cb : Nat} {v u : Value} (h : w.cell? ⟨cb, 0, none⟩ = some v) : (w.setCell ⟨cb, 0, none⟩ u).cell? ⟨cb, 0, none⟩ = some u := by
  simp [World.cell?_setCell_same, h]

set_option maxHeartbeats 400000 in
theorem add33_some (cb b : Nat) (n s : Nat) (f : Int → Option Int) (x : Int) (w : World) (hc : Hid (Cnt w cb (some b) n f s)) (hx : Hid (Fits x)) (hn : n < 1099511627776) :
    Calls Trym.prog 33 #[.pointer (some ⟨cb, 0, none⟩), .int .u64 x] w (AddPost cb (some b) n s f x w) := by
  have c0 := hc.out.cell
  obtain ⟨hne, hM⟩ : b ≠ cb ∧ MapIs w b n f s := by
    rcases hc.out.map with ⟨h, _⟩ | ⟨b', h, h2, h3⟩
    · cases h
    · cases h; exact ⟨h2, h3⟩
  have hl := hM.look1 (t := 67) Trym.underlying67 hx.out
  obtain ⟨w2, hrun, hM2, hg⟩ := hM.put hn (t := 67) Trym.underlying67 (v := wrap64 ((f x).getD 0 + 1)) hx.out (wrap64_wf _)
  have HF : Hid (AddPost cb (some b) n s f x w (.returned (.tuple #[])) w2) := by
    have hfr := Frm.of_grown hg
    have hl := lt_of_cell c0
    refine ⟨rfl, b, ⟨(hfr.cell hl (Ne.symm hne)).trans c0, (hfr.frozen hl (Ne.symm hne)).trans hc.out.free, .inr ⟨b, rfl, hne, hM2⟩⟩, hfr.imp (fun k _ e => .inr (by rw [e])), .inl rfl⟩
  generalize hgc : (f x).getD 0 = c at *
  have q := fun w m => run_eql_nil67 w m
  clear hgc hM hM2 hg hc hne
  go_enter Trym.func33, Trym.ntmps33
  go_wp2
  go_end0
  exact HF.out

set_option maxHeartbeats 400000 in
theorem add33_nil (cb : Nat) (n s : Nat) (f : Int → Option Int) (x : Int) (w : World) (hc : Hid (Cnt w cb none n f s)) (hx : Hid (Fits x)) :
    Calls Trym.prog 33 #[.pointer (some ⟨cb, 0, none⟩), .int .u64 x] w (AddPost cb none n s f x w) := by
  have c0 := hc.out.cell
  have hfz := hc.out.free
  obtain ⟨hs, hf⟩ : s = 0 ∧ ∀ x, f x = none := by
    rcases hc.out.map with ⟨_, h1, h2⟩ | ⟨b', h, _⟩
    · exact ⟨h1, h2⟩
    · cases h
  have hlt := lt_of_cell c0
  simp only at hlt
  have F1 : Frm w ((w.setCell ⟨cb, 0, none⟩ (.map (some w.heap.size))).alloc (.map #[] 0)) (fun k => k = cb) :=
    ((Frm.setCell w ⟨cb, 0, none⟩ (.map (some w.heap.size))).trans (Frm.alloc _ (.map #[] 0) (fun _ => False))).imp (fun k _ h => by rcases h with h | h; exact h; exact h.elim)
  have es : (w.setCell ⟨cb, 0, none⟩ (.map (some w.heap.size))).heap.size = w.heap.size := by simp [World.setCell]
  have hM : MapIs ((w.setCell ⟨cb, 0, none⟩ (.map (some w.heap.size))).alloc (.map #[] 0)) w.heap.size 0 (fun _ => none) 0 := by
    have := MapIs.made (w.setCell ⟨cb, 0, none⟩ (.map (some w.heap.size)))
    rw [es] at this
    exact this
  have c0b : ((w.setCell ⟨cb, 0, none⟩ (.map (some w.heap.size))).alloc (.map #[] 0)).cell? ⟨cb, 0, none⟩ = some (.map (some w.heap.size)) := by
    rw [(Frm.alloc (w.setCell ⟨cb, 0, none⟩ (.map (some w.heap.size))) (.map #[] 0) (fun _ => False)).cell (a := ⟨cb, 0, none⟩) (by rw [es]; exact hlt) (fun h => h)]
    exact one_cell c0
  have hl := hM.look1 (t := 67) Trym.underlying67 hx.out
  obtain ⟨w2, hrun, hM2, hg⟩ := hM.put (by omega) (t := 67) Trym.underlying67 (v := 1) hx.out (by decide)
  have HF : Hid (AddPost cb none n s f x w (.returned (.tuple #[])) w2) := by
    have hfr := Frm.of_grown hg
    have hl2 := lt_of_cell c0b
    have hfrz : ((w.setCell ⟨cb, 0, none⟩ (.map (some w.heap.size))).alloc (.map #[] 0)).frozen? ⟨cb, 0, none⟩ = false := by
      rw [(Frm.alloc (w.setCell ⟨cb, 0, none⟩ (.map (some w.heap.size))) (.map #[] 0) (fun _ => False)).frozen (a := ⟨cb, 0, none⟩) (by rw [es]; exact hlt) (fun h => h), World.frozen?_setCell]
      exact hfz
    refine ⟨rfl, w.heap.size, ⟨(hfr.cell hl2 (by simp; omega)).trans c0b, (hfr.frozen hl2 (by simp; omega)).trans hfrz, .inr ⟨_, rfl, by omega, ?_⟩⟩, ?_, .inr ⟨rfl, rfl⟩⟩
    · obtain ⟨D, hD, hq, hsz⟩ := hM2
      refine ⟨D, hD.mono (by omega), fun y hy => ?_, ?_⟩
      · have := hq y hy
        unfold upd at this ⊢
        rw [hf x, hf y]
        have e1 : wrap64 (0 + 1) = 1 := by rw [IntWalk.wrap64_in _ ⟨by omega, by omega⟩]; rfl
        simp only [Option.getD_none, e1]
        exact this
      · rw [hsz, hf x, hs]
    · refine (F1.trans hfr).imp (fun k hk h => ?_)
      rcases h with h | h
      · exact .inl h
      · omega
  have q := fun w m => run_eql_nil67 w m
  have hmm := @run_makeMap Trym.prog
  simp only [Option.getD_none] at hl
  clear hM hM2 hg hc hf F1 es
  go_enter Trym.func33, Trym.ntmps33
  go_wp2
  go_end0
  exact HF.out

theorem add33 (cb : Nat) (m : Option Nat) (n s : Nat) (f : Int → Option Int) (x : Int) (w : World) (hc : Hid (Cnt w cb m n f s)) (hx : Hid (Fits x)) (hn : n < 1099511627776) :
    Calls Trym.prog 33 #[.pointer (some ⟨cb, 0, none⟩), .int .u64 x] w (AddPost cb m n s f x w) := by
  cases m with
  | none => exact add33_nil cb n s f x w hc hx
  | some b => exact add33_some cb b n s f x w hc hx hn

theorem add17 (cb : Nat) (m : Option Nat) (n s : Nat) (f : Int → Option Int) (x : Int) (w : World) (hc : Hid (Cnt w cb m n f s)) (hx : Hid (Fits x)) (hn : n < 1099511627776) :
    Calls Trym.prog 17 #[.pointer (some ⟨cb, 0, none⟩), .int .u64 x] w (AddPost cb m n s f x w) := by
  have HC : Hid (Calls Trym.prog 33 #[.pointer (some ⟨cb, 0, none⟩), .int .u64 x] w (AddPost cb m n s f x w)) := add33 cb m n s f x w hc hx hn
  go_enter Trym.func17, Trym.ntmps17
  go_wp2_with fail
  refine HC.out.mono ?_
  rintro e w' ⟨rfl, h⟩
  have H : Hid _ := h
  clear h
  go_wp2_with fail
  go_end0
  exact ⟨rfl, H.out⟩
end Go.Proofs.Qxb6608597aMods
