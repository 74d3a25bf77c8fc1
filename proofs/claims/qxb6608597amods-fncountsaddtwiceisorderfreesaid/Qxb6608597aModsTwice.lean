import Derived.Test.Qxb6608597aModsTwicePlain
import Derived.Deep.DeepCutAuto
namespace Go.Proofs.Qxb6608597aMods
open Go.RowKit Go.Maps
set_option linter.unusedVariables false
set_option maxRecDepth 100000

section
variable (a0 a1 : Option Addr) (l0 c0 l1 c1 : Nat) (a b : Int) (w : World)

theorem bytes21 (h : l0 + l1 ≤ 1048576) :
    Calls Trym.prog 21 #[.slice a0 l0 c0, .slice a1 l1 c1, .int .u64 a, .int .u64 b] w fun e w' => e = .returned (.bool true) ∧ w' = w := by
  go_enter Trym.func21, Trym.ntmps21
  go_wp2
  go_ret
  exact ⟨rfl, rfl⟩
theorem bytes21_no (hm0 : l0 ≤ maxLen) (hm1 : l1 ≤ maxLen) (h : ¬ l0 + l1 ≤ 1048576) :
    Calls Trym.prog 21 #[.slice a0 l0 c0, .slice a1 l1 c1, .int .u64 a, .int .u64 b] w fun e w' => e = .returned (.bool false) ∧ w' = w := by
  unfold maxLen at hm0 hm1
  go_enter Trym.func21, Trym.ntmps21
  go_wp2
  all_goals
    go_ret
    exact ⟨rfl, rfl⟩

theorem twice_big (hm0 : l0 ≤ maxLen) (hm1 : l1 ≤ maxLen) (h : ¬ l0 + l1 ≤ 1048576) :
    Calls Trym.prog 5 #[.slice a0 l0 c0, .slice a1 l1 c1, .int .u64 a, .int .u64 b] w (YesPost w) := by
  have HC : Hid (Calls Trym.prog 21 #[.slice a0 l0 c0, .slice a1 l1 c1, .int .u64 a, .int .u64 b] w fun e w' => e = .returned (.bool false) ∧ w' = w) := bytes21_no a0 a1 l0 c0 l1 c1 a b w hm0 hm1 h
  clear h
  go_enter Trym.func5, Trym.ntmps5
  go_wp2_with fail
  refine HC.out.mono ?_
  rintro e w' ⟨rfl, rfl⟩
  go_wp2_with fail
  go_ret
  exact ⟨rfl, Below.refl _ _⟩

theorem twice_long (h : l0 + l1 ≤ 1048576) (h1 : 65536 < l0 ∨ 65536 < l1) :
    Calls Trym.prog 5 #[.slice a0 l0 c0, .slice a1 l1 c1, .int .u64 a, .int .u64 b] w (YesPost w) := by
  have HC : Hid (Calls Trym.prog 21 #[.slice a0 l0 c0, .slice a1 l1 c1, .int .u64 a, .int .u64 b] w fun e w' => e = .returned (.bool true) ∧ w' = w) := bytes21 a0 a1 l0 c0 l1 c1 a b w h
  by_cases g : 65536 < l0
  · clear h1
    go_enter Trym.func5, Trym.ntmps5
    go_wp2_with fail
    refine HC.out.mono ?_
    rintro e w' ⟨rfl, rfl⟩
    go_wp2_with fail
    go_ret
    exact ⟨rfl, Below.refl _ _⟩
  · have g1 : 65536 < l1 := by omega
    clear h1
    go_enter Trym.func5, Trym.ntmps5
    go_wp2_with fail
    refine HC.out.mono ?_
    rintro e w' ⟨rfl, rfl⟩
    go_wp2_with fail
    go_ret
    exact ⟨rfl, Below.refl _ _⟩

theorem twice_ne (h0 : l0 ≤ 65536) (h1 : l1 ≤ 65536) (h : ¬ l0 = l1) :
    Calls Trym.prog 5 #[.slice a0 l0 c0, .slice a1 l1 c1, .int .u64 a, .int .u64 b] w (YesPost w) := by
  have HC : Hid (Calls Trym.prog 21 #[.slice a0 l0 c0, .slice a1 l1 c1, .int .u64 a, .int .u64 b] w fun e w' => e = .returned (.bool true) ∧ w' = w) := bytes21 a0 a1 l0 c0 l1 c1 a b w (by omega)
  have d0 : decide (65536 < (l0 : Int)) = false := decide_eq_false (by omega)
  have d1 : decide (65536 < (l1 : Int)) = false := decide_eq_false (by omega)
  have hne : ((l1 : Int) != (l0 : Int)) = true := by rw [bne_iff_ne]; omega
  clear h
  go_enter Trym.func5, Trym.ntmps5
  go_wp2_with fail
  refine HC.out.mono ?_
  rintro e w' ⟨rfl, rfl⟩
  go_wp2_with fail
  go_ret
  exact ⟨rfl, Below.refl _ _⟩
end

/-- The three maps, apart from each other, in memory from B on. -/
structure Three (B : Nat) (w : World) (m0 m1 m2 : Option Nat) (n : Nat) (f : Int → Option Int) (s : Nat) (wc : World) : Prop where
  q0 : M0 wc m0 n f s
  q1 : M0 wc m1 n f s
  q2 : M0 wc m2 n f s
  a0 : ∀ b, m0 = some b → B ≤ b ∧ m1 ≠ some b ∧ m2 ≠ some b
  a1 : ∀ b, m1 = some b → B ≤ b ∧ m2 ≠ some b
  a2 : ∀ b, m2 = some b → B ≤ b
  below : Below B w wc
  size : B ≤ wc.heap.size

theorem three_none (w : World) (f : Int → Option Int) (hf : ∀ x, f x = none) : Three w.heap.size w none none none 0 f 0 w :=
  ⟨.inl ⟨rfl, rfl, hf⟩, .inl ⟨rfl, rfl, hf⟩, .inl ⟨rfl, rfl, hf⟩, (fun _ h => by cases h), (fun _ h => by cases h), (fun _ h => by cases h), Below.refl _ _, Nat.le_refl _⟩

/-- Behind the first counts' adds. -/
structure S1 (B : Nat) (w : World) (m0 m2 : Option Nat) (n : Nat) (f : Int → Option Int) (s cb1 b1 n1 : Nat) (g1 : Int → Option Int) (t1 : Nat) (wx : World) : Prop where
  c1 : Cnt wx cb1 (some b1) n1 g1 t1
  q0 : M0 wx m0 n f s
  q2 : M0 wx m2 n f s
  a0 : ∀ b, m0 = some b → B ≤ b ∧ m2 ≠ some b ∧ b ≠ cb1 ∧ b ≠ b1
  a2 : ∀ b, m2 = some b → B ≤ b ∧ b ≠ cb1 ∧ b ≠ b1
  hcb : B ≤ cb1
  hb1 : B ≤ b1
  below : Below B w wx
  size : B ≤ wx.heap.size

theorem s1_start {B : Nat} {w wc wB : World} {m0 m1 m2 : Option Nat} {n s : Nat} {f : Int → Option Int} {x : Int} {e : Ending} (h : Three B w m0 m1 m2 n f s wc)
    (hp : AddPost wc.heap.size m1 n s f x (wc.alloc (.cells #[.map m1] 67)) e wB) : ∃ b1, S1 B w m0 m2 n f s wc.heap.size b1 (n + 1) (inc f x) (incS f s x) wB := by
  obtain ⟨_, b1, hc, hf, hb⟩ := hp
  have fa : Frm wc (wc.alloc (.cells #[.map m1] 67)) (fun _ => False) := Frm.alloc _ _ _
  have ff : Frm wc wB (fun k => m1 = some k) := (fa.trans hf).imp (fun k hk h => by
    rcases h with h | h | h
    · exact h.elim
    · omega
    · exact h)
  have hsz : (wc.alloc (.cells #[.map m1] 67)).heap.size = wc.heap.size + 1 := by simp
  have hBs := h.size
  have hbB : B ≤ b1 := by
    rcases hb with e1 | ⟨_, e1⟩
    · exact (h.a1 b1 e1).1
    · omega
  have hne : ∀ b, m0 = some b ∨ m2 = some b → b < wc.heap.size → m1 ≠ some b → b ≠ b1 := by
    rintro b - hlt hm rfl
    rcases hb with e1 | ⟨_, e1⟩
    · exact hm e1
    · omega
  refine ⟨b1, hc, M0.frm ff h.q0 (fun b e => (h.a0 b e).2.1), M0.frm ff h.q2 (fun b e e1 => (h.a1 b e1).2 e), ?_, ?_, hBs, hbB, h.below.trans (ff.below hBs (fun k hk e => by have := (h.a1 k e).1; omega)), Nat.le_trans hBs ff.size⟩
  · intro b e
    have hl := h.q0.lt e
    exact ⟨(h.a0 b e).1, (h.a0 b e).2.2, by omega, hne b (.inl e) hl (h.a0 b e).2.1⟩
  · intro b e
    have hl := h.q2.lt e
    exact ⟨h.a2 b e, by omega, hne b (.inr e) hl (fun e1 => (h.a1 b e1).2 e)⟩

theorem s1_step {B : Nat} {w wB wC : World} {m0 m2 : Option Nat} {n s cb1 b1 n1 t1 : Nat} {f g1 : Int → Option Int} {x : Int} {e : Ending} (h : S1 B w m0 m2 n f s cb1 b1 n1 g1 t1 wB)
    (hp : AddPost cb1 (some b1) n1 t1 g1 x wB e wC) : S1 B w m0 m2 n f s cb1 b1 (n1 + 1) (inc g1 x) (incS g1 t1 x) wC := by
  obtain ⟨_, b', hc, hf, hb⟩ := hp
  obtain rfl : b' = b1 := by
    rcases hb with e1 | ⟨e1, _⟩
    · cases e1; rfl
    · cases e1
  have h1 := h.hcb
  have h2 := h.hb1
  refine ⟨hc, M0.frm hf h.q0 (fun b e q => ?_), M0.frm hf h.q2 (fun b e q => ?_), h.a0, h.a2, h1, h2, h.below.trans (hf.below h.size (fun k hk q => ?_)), Nat.le_trans h.size hf.size⟩
  · rcases q with q | q
    · exact (h.a0 b e).2.2.1 q
    · cases q; exact (h.a0 _ e).2.2.2 rfl
  · rcases q with q | q
    · exact (h.a2 b e).2.1 q
    · cases q; exact (h.a2 _ e).2.2 rfl
  · rcases q with q | q
    · omega
    · cases q; omega

/-- Behind both counts' adds. -/
structure S2 (B : Nat) (w : World) (m0 : Option Nat) (n : Nat) (f : Int → Option Int) (s cb1 b1 n1 : Nat) (g1 : Int → Option Int) (t1 cb2 b2 n2 : Nat) (g2 : Int → Option Int) (t2 : Nat) (wx : World) : Prop where
  c1 : Cnt wx cb1 (some b1) n1 g1 t1
  c2 : Cnt wx cb2 (some b2) n2 g2 t2
  q0 : M0 wx m0 n f s
  a0 : ∀ b, m0 = some b → b ≠ cb2 ∧ b ≠ b2
  p1 : cb1 ≠ cb2 ∧ cb1 ≠ b2 ∧ b1 ≠ cb2 ∧ b1 ≠ b2
  hcb : B ≤ cb2
  hb2 : B ≤ b2
  below : Below B w wx
  size : B ≤ wx.heap.size

theorem s2_start {B : Nat} {w wC wE : World} {m0 m2 : Option Nat} {n s cb1 b1 n1 t1 : Nat} {f g1 : Int → Option Int} {x : Int} {e : Ending} (h : S1 B w m0 m2 n f s cb1 b1 n1 g1 t1 wC)
    (hp : AddPost wC.heap.size m2 n s f x (wC.alloc (.cells #[.map m2] 67)) e wE) : ∃ b2, S2 B w m0 n f s cb1 b1 n1 g1 t1 wC.heap.size b2 (n + 1) (inc f x) (incS f s x) wE := by
  obtain ⟨_, b2, hc, hf, hb⟩ := hp
  have fa : Frm wC (wC.alloc (.cells #[.map m2] 67)) (fun _ => False) := Frm.alloc _ _ _
  have ff : Frm wC wE (fun k => m2 = some k) := (fa.trans hf).imp (fun k hk h => by
    rcases h with h | h | h
    · exact h.elim
    · omega
    · exact h)
  have hsz : (wC.alloc (.cells #[.map m2] 67)).heap.size = wC.heap.size + 1 := by simp
  have hBs := h.size
  have hl1 := lt_of_cell h.c1.cell
  simp only at hl1
  have hl2 := h.c1.lt rfl
  have hbB : B ≤ b2 := by
    rcases hb with e1 | ⟨_, e1⟩
    · exact (h.a2 b2 e1).1
    · omega
  refine ⟨b2, ff.cnt h.c1 (fun q => (h.a2 _ q).2.1 rfl) (fun b e q => by cases e; exact (h.a2 _ q).2.2 rfl), hc, M0.frm ff h.q0 (fun b e q => (h.a0 b e).2.1 q), ?_, ⟨by omega, ?_, by omega, ?_⟩, hBs, hbB,
    h.below.trans (ff.below hBs (fun k hk q => by have := (h.a2 k q).1; omega)), Nat.le_trans hBs ff.size⟩
  · intro b e
    have hl := h.q0.lt e
    refine ⟨by omega, ?_⟩
    rintro rfl
    rcases hb with e1 | ⟨_, e1⟩
    · exact (h.a0 _ e).2.1 e1
    · omega
  · rintro rfl
    rcases hb with e1 | ⟨_, e1⟩
    · exact (h.a2 _ e1).2.1 rfl
    · omega
  · rintro rfl
    rcases hb with e1 | ⟨_, e1⟩
    · exact (h.a2 _ e1).2.2 rfl
    · omega

theorem s2_step {B : Nat} {w wE wF : World} {m0 : Option Nat} {n s cb1 b1 n1 t1 cb2 b2 n2 t2 : Nat} {f g1 g2 : Int → Option Int} {x : Int} {e : Ending} (h : S2 B w m0 n f s cb1 b1 n1 g1 t1 cb2 b2 n2 g2 t2 wE)
    (hp : AddPost cb2 (some b2) n2 t2 g2 x wE e wF) : S2 B w m0 n f s cb1 b1 n1 g1 t1 cb2 b2 (n2 + 1) (inc g2 x) (incS g2 t2 x) wF := by
  obtain ⟨_, b', hc, hf, hb⟩ := hp
  obtain rfl : b' = b2 := by
    rcases hb with e1 | ⟨e1, _⟩
    · cases e1; rfl
    · cases e1
  have h1 := h.hcb
  have h2 := h.hb2
  obtain ⟨p1, p2, p3, p4⟩ := h.p1
  refine ⟨hf.cnt h.c1 (fun q => ?_) (fun b e q => ?_), hc, M0.frm hf h.q0 (fun b e q => ?_), h.a0, h.p1, h1, h2, h.below.trans (hf.below h.size (fun k hk q => ?_)), Nat.le_trans h.size hf.size⟩
  · rcases q with q | q
    · exact p1 q
    · cases q; exact p2 rfl
  · cases e
    rcases q with q | q
    · exact p3 q
    · cases q; exact p4 rfl
  · rcases q with q | q
    · exact (h.a0 b e).1 q
    · cases q; exact (h.a0 _ e).2 rfl
  · rcases q with q | q
    · omega
    · cases q; omega

/-- What the filling loop knows behind k rounds. -/
structure Fil (w : World) (ks vs : List Int) (k : Nat) (wr : World) : Prop where
  m0 : MapIs wr w.heap.size k (fill ks vs k) (fillS ks vs k)
  m1 : MapIs wr (w.heap.size + 1) k (fill ks vs k) (fillS ks vs k)
  m2 : MapIs wr (w.heap.size + 1 + 1) k (fill ks vs k) (fillS ks vs k)
  below : Below w.heap.size w wr

theorem fil_start (w : World) (ks vs : List Int) : Fil w ks vs 0 (((w.alloc (.map #[] 0)).alloc (.map #[] 0)).alloc (.map #[] 0)) := by
  have e1 : (w.alloc (.map #[] 0)).heap.size = w.heap.size + 1 := by simp
  have e2 : ((w.alloc (.map #[] 0)).alloc (.map #[] 0)).heap.size = w.heap.size + 1 + 1 := by simp
  have h0 := MapIs.made w
  have h1 := MapIs.made (w.alloc (.map #[] 0))
  have h2 := MapIs.made ((w.alloc (.map #[] 0)).alloc (.map #[] 0))
  rw [e1] at h1
  rw [e2] at h2
  refine ⟨?_, ?_, h2, ((((Below.refl _ _).alloc (Nat.le_refl _) _).alloc (by simp) _).alloc (by simp; omega) _)⟩
  · exact (Frm.alloc _ _ (fun _ => False)).map ((Frm.alloc _ _ (fun _ => False)).map h0 (fun h => h)) (fun h => h)
  · exact (Frm.alloc _ _ (fun _ => False)).map h1 (fun h => h)

theorem mapIs_drew {w : World} {b n s : Nat} {f : Int → Option Int} (h : MapIs w b n f s) : MapIs w.drew b n f s := h.of_block rfl

theorem fil_step {w wr : World} {ks vs : List Int} {k : Nat} (h : Fil w ks vs k wr) (hk : k < 1099511627776) {x v : Int} (ex : x = ks.getD k 0) (ev : v = vs.getD k 0) (hx : Fits x) (hv : (Lit.int .i64 v).wf = true) :
    ∃ w1 w2 w3, (Instr.mapUpdate 47 (.map (some w.heap.size)) (.int .u64 x) (.int .i64 v)).run Trym.prog wr.drew = .ok () w1 ∧
      (Instr.mapUpdate 47 (.map (some (w.heap.size + 1))) (.int .u64 x) (.int .i64 v)).run Trym.prog w1.drew = .ok () w2 ∧
      (Instr.mapUpdate 47 (.map (some (w.heap.size + 1 + 1))) (.int .u64 x) (.int .i64 v)).run Trym.prog w2.drew = .ok () w3 ∧
      Below w.heap.size w w1 ∧ Below w.heap.size w w2 ∧ Fil w ks vs (k + 1) w3 := by
  have hs := h.below.size
  obtain ⟨w1, r1, M1, g1⟩ := (mapIs_drew h.m0).put hk (t := 47) Trym.underlying47 hx hv
  have f1 : Frm wr w1 (fun i => i = w.heap.size) := ((Frm.drew wr (fun _ => False)).trans (Frm.of_grown g1)).imp (fun i _ h => by rcases h with h | h; exact h.elim; exact h)
  have a1 := f1.map h.m1 (by omega)
  have a2 := f1.map h.m2 (by omega)
  have b1 : Below w.heap.size w w1 := h.below.trans (f1.below hs (fun i hi e => by omega))
  obtain ⟨w2, r2, M2, g2⟩ := (mapIs_drew a1).put hk (t := 47) Trym.underlying47 hx hv
  have f2 : Frm w1 w2 (fun i => i = w.heap.size + 1) := ((Frm.drew w1 (fun _ => False)).trans (Frm.of_grown g2)).imp (fun i _ h => by rcases h with h | h; exact h.elim; exact h)
  have c0 := f2.map M1 (by omega)
  have c2 := f2.map a2 (by omega)
  have b2 : Below w.heap.size w w2 := b1.trans (f2.below b1.size (fun i hi e => by omega))
  obtain ⟨w3, r3, M3, g3⟩ := (mapIs_drew c2).put hk (t := 47) Trym.underlying47 hx hv
  have f3 : Frm w2 w3 (fun i => i = w.heap.size + 1 + 1) := ((Frm.drew w2 (fun _ => False)).trans (Frm.of_grown g3)).imp (fun i _ h => by rcases h with h | h; exact h.elim; exact h)
  have d0 := f3.map c0 (by omega)
  have d1 := f3.map M2 (by omega)
  have b3 : Below w.heap.size w w3 := b2.trans (f3.below b2.size (fun i hi e => by omega))
  refine ⟨w1, w2, w3, r1, r2, r3, b1, b2, ⟨?_, ?_, ?_, b3⟩⟩
  · subst ex; subst ev; exact d0
  · subst ex; subst ev; exact d1
  · subst ex; subst ev; exact M3

/-- What the walk is told of the two rows. -/
structure Rws (w : World) (b0 o0 b1 o1 n : Nat) (ks vs : List Int) : Prop where
  l0 : b0 < w.heap.size
  l1 : b1 < w.heap.size
  c0 : ∀ i, i < n → w.cell? ⟨b0, o0 + i, none⟩ = some (.int .u64 (ks.getD i 0))
  c1 : ∀ i, i < n → w.cell? ⟨b1, o1 + i, none⟩ = some (.int .i64 (vs.getD i 0))
  f0 : ∀ i, i < n → Fits (ks.getD i 0)
  f1 : ∀ i, i < n → (Lit.int .i64 (vs.getD i 0)).wf = true

set_option maxHeartbeats 2000000 in
theorem twice_main (a0 a1 : Option Addr) (n c0 c1 : Nat) (ks vs : List Int) (a b : Int) (w : World) (hn : n ≤ 65536) (ha : Hid (Fits a)) (hb : Hid (Fits b))
    (hr : Hid (0 < n → ∃ b0 o0 b1 o1, a0 = some ⟨b0, o0, none⟩ ∧ a1 = some ⟨b1, o1, none⟩ ∧ Rws w b0 o0 b1 o1 n ks vs)) :
    Calls Trym.prog 5 #[.slice a0 n c0, .slice a1 n c1, .int .u64 a, .int .u64 b] w (YesPost w) := by
  have HC : Hid (Calls Trym.prog 21 #[.slice a0 n c0, .slice a1 n c1, .int .u64 a, .int .u64 b] w fun e w' => e = .returned (.bool true) ∧ w' = w) := bytes21 a0 a1 n c0 n c1 a b w (by omega)
  have d0 : decide (65536 < (n : Int)) = false := decide_eq_false (by omega)
  have hne : ((n : Int) != (n : Int)) = false := by simp
  go_enter Trym.func5, Trym.ntmps5
  go_wp2_with fail
  refine HC.out.mono ?_
  rintro e w' ⟨rfl, hw'⟩
  rw [hw']
  clear HC hw' w'
  go_upto_if 42 with fail
  go_cut [9, 10, 11] (fun v0 v1 v2 wc => ∃ m0 m1 m2, v0 = .map m0 ∧ v1 = .map m1 ∧ v2 = .map m2 ∧ Three w.heap.size w m0 m1 m2 n (fill ks vs n) (fillS ks vs n) wc)
  case first =>
    by_cases h0 : 0 < n
    · obtain ⟨b0, o0, b1, o1, rfl, rfl, HRW⟩ := hr.out h0
      have RW : Hid (Rws w b0 o0 b1 o1 n ks vs) := HRW
      clear HRW hr
      have hmm := @run_makeMap Trym.prog
      go_wp2_with fail
      have HS : Hid (Fil w ks vs 0 (((w.alloc (.map #[] 0)).alloc (.map #[] 0)).alloc (.map #[] 0))) := fil_start w ks vs
      generalize ((w.alloc (.map #[] 0)).alloc (.map #[] 0)).alloc (.map #[] 0) = W0 at *
      go_loopw [12] (fun i wr => ∃ k : Nat, k ≤ n ∧ i = .int .i64 k ∧ Fil w ks vs k wr) (fun i _ => n - (intOf i).toNat)
      case atStart => exact ⟨0, Nat.zero_le _, rfl, HS.out⟩
      case round =>
        clear HS hmm
        obtain ⟨k, hk, rfl, hF⟩ := hrel
        have HF : Hid (Fil w ks vs k wr) := hF
        clear hF
        by_cases hlt : k < n
        · obtain ⟨x, hx⟩ : ∃ x, x = ks.getD k 0 := ⟨_, rfl⟩
          obtain ⟨v, hv⟩ : ∃ v, v = vs.getD k 0 := ⟨_, rfl⟩
          obtain ⟨w1, w2, w3, q1, q2, q3, be1, be2, hF3⟩ := fil_step HF.out (by omega) hx hv (by rw [hx]; exact RW.out.f0 k hlt) (by rw [hv]; exact RW.out.f1 k hlt)
          have x0 : wr.cell? ⟨b0, o0 + k, none⟩ = some (.int .u64 x) := by rw [HF.out.below.cell (p := ⟨b0, o0 + k, none⟩) RW.out.l0, hx]; exact RW.out.c0 k hlt
          have x1 : w1.cell? ⟨b0, o0 + k, none⟩ = some (.int .u64 x) := by rw [be1.cell (p := ⟨b0, o0 + k, none⟩) RW.out.l0, hx]; exact RW.out.c0 k hlt
          have x2 : w2.cell? ⟨b0, o0 + k, none⟩ = some (.int .u64 x) := by rw [be2.cell (p := ⟨b0, o0 + k, none⟩) RW.out.l0, hx]; exact RW.out.c0 k hlt
          have y0 : wr.cell? ⟨b1, o1 + k, none⟩ = some (.int .i64 v) := by rw [HF.out.below.cell (p := ⟨b1, o1 + k, none⟩) RW.out.l1, hv]; exact RW.out.c1 k hlt
          have y1 : w1.cell? ⟨b1, o1 + k, none⟩ = some (.int .i64 v) := by rw [be1.cell (p := ⟨b1, o1 + k, none⟩) RW.out.l1, hv]; exact RW.out.c1 k hlt
          have y2 : w2.cell? ⟨b1, o1 + k, none⟩ = some (.int .i64 v) := by rw [be2.cell (p := ⟨b1, o1 + k, none⟩) RW.out.l1, hv]; exact RW.out.c1 k hlt
          have HF3 : Hid (Fil w ks vs (k + 1) w3) := hF3
          have hz1 : (0 : Int) ≤ (k : Int) := by omega
          have hz2 : (k : Int) < (n : Int) := by omega
          clear hx hv be1 be2 hF3 HF
          go_wp2
          go_region
          go_wp2
          go_region
          go_wp2
          go_region
          go_wp2
          go_roundw
          case rel => exact ⟨k + 1, by omega, by go_num, HF3.out⟩
          case measure => simp [intOf]; omega
        · obtain rfl : k = n := by omega
          have HS : Hid (Three w.heap.size w (some w.heap.size) (some (w.heap.size + 1)) (some (w.heap.size + 1 + 1)) k (fill ks vs k) (fillS ks vs k) wr) := by
            refine ⟨.inr ⟨_, rfl, HF.out.m0⟩, .inr ⟨_, rfl, HF.out.m1⟩, .inr ⟨_, rfl, HF.out.m2⟩, ?_, ?_, ?_, HF.out.below, HF.out.below.size⟩
            · intro b e; cases e; exact ⟨Nat.le_refl _, by simp, by simp; omega⟩
            · intro b e; cases e; exact ⟨by omega, by simp⟩
            · intro b e; cases e; omega
          go_wp2
          go_meet
          case rel => exact ⟨_, _, _, rfl, rfl, rfl, HS.out⟩
    · obtain rfl : n = 0 := by omega
      go_wp2
      go_meet
      case rel => exact ⟨_, _, _, rfl, rfl, rfl, three_none w _ (fun _ => rfl)⟩
  case rest =>
  obtain ⟨m0, m1, m2, rfl, rfl, rfl, hT⟩ := hcut
  have HT : Hid (Three w.heap.size w m0 m1 m2 n (fill ks vs n) (fillS ks vs n) wc) := hT
  have hfs : fillS ks vs n ≤ n := fillS_le ks vs n
  clear hT d0 hne
  generalize fill ks vs n = f at *
  generalize fillS ks vs n = s at *
  go_wp2_with fail
  refine (of16 _ _).mono ?_
  rintro e wA ⟨rfl, hwA⟩
  have HC1 : Hid (Cnt wA wc.heap.size m1 n f s) := by rw [hwA]; exact Cnt.of HT.out.q1
  have HWA : Hid (wA = wc.alloc (.cells #[.map m1] 67)) := hwA
  clear hwA
  obtain ⟨cb1, hcb1⟩ : ∃ cb1, cb1 = wc.heap.size := ⟨_, rfl⟩
  rw [← hcb1] at HC1 ⊢
  have HCB1 : Hid (cb1 = wc.heap.size) := hcb1
  clear hcb1
  go_wp2_with fail
  refine (add17 cb1 m1 n s f a wA HC1 ha (by omega)).mono ?_
  intro e wB hp
  have he : e = .returned (.tuple #[]) := hp.1
  obtain ⟨b1, hS1⟩ := s1_start HT.out (HWA.out ▸ HCB1.out ▸ hp)
  rw [← HCB1.out] at hS1
  have HS1 : Hid (S1 w.heap.size w m0 m2 n f s cb1 b1 (n + 1) (inc f a) (incS f s a) wB) := hS1
  have HC1b : Hid (Cnt wB cb1 (some b1) (n + 1) (inc f a) (incS f s a)) := hS1.c1
  clear hp hS1 HWA HCB1 HC1 HT
  subst he
  go_wp2_with fail
  refine (add17 cb1 (some b1) (n + 1) (incS f s a) (inc f a) b wB HC1b hb (by omega)).mono ?_
  intro e wC hp
  have he : e = .returned (.tuple #[]) := hp.1
  have hS1 := s1_step HS1.out hp
  rw [incS_incS] at hS1
  have HS1c : Hid (S1 w.heap.size w m0 m2 n f s cb1 b1 (n + 1 + 1) (inc (inc f a) b) (wantS f s a b) wC) := hS1
  clear hp hS1 HS1 HC1b wB
  subst he
  go_wp2_with fail
  refine (of16 _ _).mono ?_
  rintro e wA ⟨rfl, hwA⟩
  have HC2 : Hid (Cnt wA wC.heap.size m2 n f s) := by rw [hwA]; exact Cnt.of HS1c.out.q2
  have HWA : Hid (wA = wC.alloc (.cells #[.map m2] 67)) := hwA
  clear hwA
  obtain ⟨cb2, hcb2⟩ : ∃ cb2, cb2 = wC.heap.size := ⟨_, rfl⟩
  rw [← hcb2] at HC2 ⊢
  have HCB2 : Hid (cb2 = wC.heap.size) := hcb2
  clear hcb2
  go_wp2_with fail
  refine (add17 cb2 m2 n s f b wA HC2 hb (by omega)).mono ?_
  intro e wE hp
  have he : e = .returned (.tuple #[]) := hp.1
  obtain ⟨b2, hS2⟩ := s2_start HS1c.out (HWA.out ▸ HCB2.out ▸ hp)
  rw [← HCB2.out] at hS2
  have HS2 : Hid (S2 w.heap.size w m0 n f s cb1 b1 (n + 1 + 1) (inc (inc f a) b) (wantS f s a b) cb2 b2 (n + 1) (inc f b) (incS f s b) wE) := hS2
  have HC2b : Hid (Cnt wE cb2 (some b2) (n + 1) (inc f b) (incS f s b)) := hS2.c2
  clear hp hS2 HWA HCB2 HC2 HS1c
  subst he
  go_wp2_with fail
  refine (add17 cb2 (some b2) (n + 1) (incS f s b) (inc f b) a wE HC2b ha (by omega)).mono ?_
  intro e W hp
  have he : e = .returned (.tuple #[]) := hp.1
  have hS2 := s2_step HS2.out hp
  rw [incS_incS'] at hS2
  have HX1 : Hid (Cnt W cb1 (some b1) (n + 1 + 1) (inc (inc f a) b) (wantS f s a b)) := hS2.c1
  have HX2 : Hid (Cnt W cb2 (some b2) (n + 1 + 1) (inc (inc f b) a) (wantS f s a b)) := hS2.c2
  have HX0 : Hid (M0 W m0 n f s) := hS2.q0
  have HBW : Hid (Below w.heap.size w W) := hS2.below
  clear hp hS2 HS2 HC2b wE
  subst he
  go_wp2_with fail
  refine (isnil18 cb1 (some b1) W HX1.out.cell).mono ?_
  rintro e w1 ⟨rfl, hw1⟩
  rw [hw1]
  simp only [Option.isNone_some]
  clear hw1 w1
  go_wp2_with fail
  refine (isnil18 cb2 (some b2) W HX2.out.cell).mono ?_
  rintro e w1 ⟨rfl, hw1⟩
  rw [hw1]
  simp only [Option.isNone_some]
  clear hw1 w1
  have lka := HX0.out.look ha.out
  have lkb := HX0.out.look hb.out
  have hws : wantS f s a b ≤ n + 2 := by unfold wantS; simp only; split <;> split <;> (try split) <;> omega
  have HWS : Hid (wantS f s a b = if b = a then (if (f a).isSome then s else s + 1) else if (f b).isSome then (if (f a).isSome then s else s + 1) else (if (f a).isSome then s else s + 1) + 1) := rfl
  obtain ⟨qa, hqa⟩ : ∃ qa, qa = (f a).isSome := ⟨_, rfl⟩
  obtain ⟨va, hva⟩ : ∃ va, va = (f a).getD 0 := ⟨_, rfl⟩
  rw [← hqa] at lka HWS
  rw [← hva] at lka
  clear hqa hva
  go_upto_if 110 with (at_len; refine wpList_len_m0 _ rfl _ rfl m0 n s f rfl HX0.out ?_)
  obtain ⟨s1, hs1⟩ : ∃ s1, s1 = if qa then s else s + 1 := ⟨_, rfl⟩
  have hs1l : s1 ≤ n + 1 := by rw [hs1]; split <;> omega
  have HS1 : Hid (s1 = if qa then s else s + 1) := hs1
  rw [← hs1] at HWS
  clear hs1
  go_cut [15] (fun v wd => v = .int .i64 s1 ∧ wd = W)
  case first =>
    cases qa with
    | true =>
      have HE : Hid (s1 = s) := by show s1 = s; rw [HS1.out]; rfl
      go_wp2
      go_meet
      case rel => exact ⟨by rw [HE.out], rfl⟩
    | false =>
      have HE : Hid (s1 = s + 1) := by show s1 = s + 1; rw [HS1.out]; rfl
      go_wp2
      go_meet
      case rel => exact ⟨by rw [HE.out]; go_num, rfl⟩
  case rest =>
  obtain ⟨rfl, hwd⟩ := hcut
  rw [hwd]
  clear hwd wc HS1 lka
  generalize hWS : wantS f s a b = S at *
  clear hWS
  go_upto_if 115 with fail
  go_cut [15] (fun v wd => v = .int .i64 S ∧ wd = W)
  case first =>
    by_cases hba : b = a
    · subst hba
      have HE : Hid (S = s1) := by show S = s1; rw [HWS.out, if_pos rfl]
      have hbb : (b != b) = false := by simp
      go_wp2
      go_meet
      case rel => exact ⟨by rw [HE.out], rfl⟩
    · have hbb : (b != a) = true := by simpa using hba
      cases hq : (f b).isSome with
      | true =>
        have HE : Hid (S = s1) := by show S = s1; rw [HWS.out, if_neg hba, hq]; rfl
        rw [hq] at lkb
        go_wp2
        go_meet
        case rel => exact ⟨by rw [HE.out], rfl⟩
      | false =>
        have HE : Hid (S = s1 + 1) := by show S = s1 + 1; rw [HWS.out, if_neg hba, hq]; rfl
        rw [hq] at lkb
        go_wp2
        go_meet
        case rel => exact ⟨by rw [HE.out]; go_num, rfl⟩
  case rest =>
  obtain ⟨rfl, hwd⟩ := hcut
  rw [hwd]
  clear hwd wc lkb HWS hs1l
  have hSS : ((S : Int) != (S : Int)) = false := by simp
  go_wp2_with fail
  refine (len20 cb1 (some b1) (n + 1 + 1) S _ W HX1).mono ?_
  rintro e w1 ⟨rfl, hw1⟩
  rw [hw1]
  clear hw1 w1
  go_wp2_with fail
  refine (len20 cb2 (some b2) (n + 1 + 1) S _ W HX2).mono ?_
  rintro e w1 ⟨rfl, hw1⟩
  rw [hw1]
  clear hw1 w1
  go_wp2_with fail
  refine (agree22 cb1 (some b1) (n + 1 + 1) S _ m0 n s f a a b W HX1 HX0 ha (inc_inc f a b a)).mono ?_
  rintro e w1 ⟨rfl, hw1⟩
  rw [hw1]
  clear hw1 w1
  go_wp2_with fail
  refine (agree22 cb1 (some b1) (n + 1 + 1) S _ m0 n s f b a b W HX1 HX0 hb (inc_inc f a b b)).mono ?_
  rintro e w1 ⟨rfl, hw1⟩
  rw [hw1]
  clear hw1 w1
  go_wp2_with fail
  refine (agree22 cb2 (some b2) (n + 1 + 1) S _ m0 n s f a a b W HX2 HX0 ha (inc_inc' f a b a)).mono ?_
  rintro e w1 ⟨rfl, hw1⟩
  rw [hw1]
  clear hw1 w1
  go_wp2_with fail
  refine (agree22 cb2 (some b2) (n + 1 + 1) S _ m0 n s f b a b W HX2 HX0 hb (inc_inc' f a b b)).mono ?_
  rintro e w1 ⟨rfl, hw1⟩
  rw [hw1]
  clear hw1 w1
  go_wp2_with fail
  go_loop [20] (fun i => ∃ k : Nat, k ≤ n ∧ i = .int .i64 k) (fun i => n - (intOf i).toNat)
  case atStart => exact ⟨0, Nat.zero_le _, rfl⟩
  case round =>
    obtain ⟨k, hk, rfl⟩ := hrel
    by_cases hlt : k < n
    · obtain ⟨b0, o0, b1', o1, rfl, rfl, RW⟩ := hr.out (by omega)
      have hcx : W.cell? ⟨b0, o0 + k, none⟩ = some (.int .u64 (ks.getD k 0)) := by
        rw [HBW.out.cell (p := ⟨b0, o0 + k, none⟩) RW.l0]; exact RW.c0 k hlt
      have HFX : Hid (Fits (ks.getD k 0)) := RW.f0 k hlt
      clear RW hr
      generalize ks.getD k 0 = x at *
      go_wp2_with fail
      refine (agree22 cb1 (some b1) (n + 1 + 1) S _ m0 n s f x a b W HX1 HX0 HFX (inc_inc f a b x)).mono ?_
      rintro e w1 ⟨rfl, hw1⟩
      rw [hw1]
      clear hw1 w1
      go_wp2_with fail
      refine (agree22 cb2 (some b2) (n + 1 + 1) S _ m0 n s f x a b W HX2 HX0 HFX (inc_inc' f a b x)).mono ?_
      rintro e w1 ⟨rfl, hw1⟩
      rw [hw1]
      clear hw1 w1
      go_wp2_with fail
      go_round
      case rel => exact ⟨k + 1, by omega, by go_num⟩
      case measure => simp [intOf]; omega
    · go_wp2_with fail
      go_ret
      exact ⟨rfl, HBW.out⟩
end Go.Proofs.Qxb6608597aMods
