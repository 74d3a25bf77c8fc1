import Derived.Test.Qxb6605764aModsLawTwoA
namespace Go.Proofs.Qxb6605764aMods
open Go.RowKit
set_option linter.unusedVariables false
set_option maxRecDepth 100000

theorem line_cells2 {w : World} {G lo le lt : Nat} {O E T : List Int} (hO : O.length = lo) (hE : E.length = le) (hT : T.length = lt)
    (h : w.ownsRow G 5 1 (.slice (some ⟨G, 0, none⟩) (2 + lo + le + lt) (2 + lo + le + lt)) (2 + lo + le + lt) (.int .u8 45 :: .int .u8 45 :: (O.map (Value.int .u8) ++ (E.map (Value.int .u8) ++ T.map (Value.int .u8))))) :
    ∀ i, i < 2 + lo + le + lt → w.cell? ⟨G, i, none⟩ = some (.int .u8 ((([45, 45] ++ (O ++ E)) ++ T).getD i 0)) := by
  intro i hi
  rw [h.cellAt i (by omega)]
  have e : (.int .u8 45 :: .int .u8 45 :: (O.map (Value.int .u8) ++ (E.map (Value.int .u8) ++ T.map (Value.int .u8)))) = (([45, 45] ++ (O ++ E)) ++ T).map (Value.int .u8) := by simp
  rw [e, List.getElem?_map]
  have hl : i < (([45, 45] ++ (O ++ E)) ++ T).length := by simp; omega
  rw [List.getElem?_eq_getElem hl, List.getD_eq_getElem?_getD, List.getElem?_eq_getElem hl]
  rfl

theorem last_of2 {O E : List Int} {lo le : Nat} {x : Int} (hO : O.length = lo) (h : E.length = le) (hpos : 0 < le) (hx : E.getD (le - 1) 0 = x) (hb : blankB x = false) : blankB (([45, 45] ++ (O ++ E) : List Int).getD (2 + lo + le - 1) 0) = false := by
  rw [List.getD_eq_getElem?_getD, List.getElem?_append_right (by simp; omega)]
  rw [List.getElem?_append_right (by simp; omega)]
  rw [List.getD_eq_getElem?_getD] at hx
  rw [show 2 + lo + le - 1 - ([45, 45] : List Int).length - O.length = le - 1 by simp; omega, hx]
  exact hb

theorem dash_at {ln : List Int} {N : Nat} (k : Nat) (h : ln.length = N) : dashB ln (k : Int) = (decide (k + 2 ≤ N) && ln.getD k 0 == 45 && ln.getD (k + 1) 0 == 45) := by
  unfold dashB byteOf
  rw [show ((k : Int) + 1 - 1).toNat = k by omega, show ((k : Int) + 2 - 1).toNat = k + 1 by omega, h]
  congr 2
  rw [decide_eq_decide]
  omega

set_option maxHeartbeats 8000000 in
theorem two_main (a0 a2 a3 a4 : Option Addr) (lo c0 le c1 lt c2 l1 c3 l2 c4 : Nat) (O E T A I : List Int) (HLO : Hid (O.length = lo)) (HLE : Hid (E.length = le)) (HLT : Hid (T.length = lt)) (HL1 : Hid (A.length = l1)) (HL2 : Hid (I.length = l2))
    (t : Int) (w : World) (b1 o1 : Nat) (hp0 : 0 < lo) (hp1 : 0 < le) (h0 : lo ≤ 262144) (h1 : le ≤ 262144) (h2 : lt ≤ 262144) (h3 : l1 ≤ 8192) (h4 : l2 ≤ 8192)
    (r0 : Row .u8 w a0 O) (r1 : Row .u8 w (some ⟨b1, o1, none⟩) E) (r2 : Row .u8 w a2 T) (r3 : Row .i64 w a3 A) (r4 : Row .i64 w a4 I) (n0 : a0 = none → O = [] ∧ c0 = 0) (n2 : a2 = none → T = [] ∧ c2 = 0) (n3 : a3 = none → A = [] ∧ c3 = 0) (n4 : a4 = none → I = [] ∧ c4 = 0)
    (hb : blankB (E.getD (le - 1) 0) = false) :
    Calls Trym.prog 4 #[.slice a0 lo c0, .slice (some ⟨b1, o1, none⟩) le c1, .slice a2 lt c2, .slice a3 l1 c3, .slice a4 l2 c4, .int .i64 t] w (YesPost w) := by
  have HC : Hid (Calls Trym.prog 16 #[.slice a0 lo c0, .slice (some ⟨b1, o1, none⟩) le c1, .slice a2 lt c2, .slice a3 l1 c3, .slice a4 l2 c4, .int .i64 t] w fun e w' => e = .returned (.bool true) ∧ w' = w) := bytes16 a0 (some ⟨b1, o1, none⟩) a2 a3 a4 lo c0 le c1 lt c2 l1 c3 l2 c4 t w (by omega)
  have hcx : w.cell? ⟨b1, o1 + (le - 1), none⟩ = some (.int .u8 (E.getD (le - 1) 0)) := by
    rcases r1 with h | ⟨b, o, hx, hc⟩
    · have := HLE.out; rw [h] at this; simp at this; omega
    · obtain ⟨rfl, rfl⟩ : b = b1 ∧ o = o1 := by simpa [eq_comm] using hx
      exact hc _ (by rw [HLE.out]; omega)
  have R0 : Hid (Row .u8 w a0 O) := r0
  have R1 : Hid (Row .u8 w (some ⟨b1, o1, none⟩) E) := r1
  have R2 : Hid (Row .u8 w a2 T) := r2
  have R3 : Hid (Row .i64 w a3 A) := r3
  have R4 : Hid (Row .i64 w a4 I) := r4
  have N0 : Hid (a0 = none → O = [] ∧ c0 = 0) := n0
  have N2 : Hid (a2 = none → T = [] ∧ c2 = 0) := n2
  have N3 : Hid (a3 = none → A = [] ∧ c3 = 0) := n3
  have N4 : Hid (a4 = none → I = [] ∧ c4 = 0) := n4
  clear r0 r1 r2 r3 r4 n0 n2 n3 n4
  generalize hx : E.getD (le - 1) 0 = x at *
  have HX : Hid (E.getD (le - 1) 0 = x) := hx
  clear hx
  have HB : Hid (blankB x = false) := hb
  clear hb
  have f0 : ((lo : Int) == 0) = false := by rw [beq_eq_false_iff_ne]; omega
  have f1 : ((le : Int) == 0) = false := by rw [beq_eq_false_iff_ne]; omega
  have f2 : decide (262144 < (lo : Int)) = false := decide_eq_false (by omega)
  have f3 : decide (262144 < (le : Int)) = false := decide_eq_false (by omega)
  have f4 : decide (262144 < (lt : Int)) = false := decide_eq_false (by omega)
  have f5 : decide (8192 < (l1 : Int)) = false := decide_eq_false (by omega)
  have f6 : decide (8192 < (l2 : Int)) = false := decide_eq_false (by omega)
  go_enter Trym.func4, Trym.ntmps4
  go_wp2_with fail
  refine HC.out.mono ?_
  rintro e w' ⟨rfl, rfl⟩
  go_wp2_with fail
  refine (blank6 _ _).mono ?_
  rintro e w' ⟨rfl, rfl⟩
  rw [HB.out]
  go_wp2_with fail
  refine (sorted7_n a3 l1 c3 A _ HL1 (by omega) R3.out).mono ?_
  rintro e w1 ⟨q, rfl, hq, m, rfl⟩
  clear HC hcx
  cases q with
  | false =>
    go_wp2_with fail
    go_ret
    exact ⟨rfl, ⟨rfl, rfl, rfl, Nat.le_refl _, fun _ _ => rfl⟩⟩
  | true =>
  have HSA : Hid (Sorted A) := hq rfl
  clear hq
  go_wp2_with fail
  refine (sorted7_n a4 l2 c4 I _ HL2 (by omega) (by exact row_drewN R4.out _)).mono ?_
  rintro e w1 ⟨q, rfl, hq, m2, rfl⟩
  cases q with
  | false =>
    go_wp2_with fail
    go_ret
    exact ⟨rfl, ⟨rfl, rfl, rfl, Nat.le_refl _, fun _ _ => rfl⟩⟩
  | true =>
  have HSI : Hid (Sorted I) := hq rfl
  clear hq
  clear f0 f1 f2 f3 f4 f5 f6
  go_wp2_with fail
  refine (clone8_n _ lo c0 O _ HLO (by omega) (by exact row_drewN R0.out _) N0.out).mono ?_
  rintro e v1 ⟨x0, rfl, rr, bel⟩
  have HB1 : Hid (Below w'.heap.size w' v1) := below_drewN bel
  have RO1 : Hid (Row .u8 v1 x0 O) := rr
  clear bel rr
  go_wp2_with fail
  refine (clone8_n _ le c1 E _ HLE (by omega) (by exact R1.out.below HB1.out) (by intro h; cases h)).mono ?_
  rintro e v2 ⟨x1, rfl, rr, bel⟩
  have HB2 : Hid (Below w'.heap.size w' v2) := HB1.out.trans (bel.mono HB1.out.size)
  have RO2 : Hid (Row .u8 v2 x0 O) := RO1.out.below bel
  have RE2 : Hid (Row .u8 v2 x1 E) := rr
  clear bel rr RO1 HB1
  go_wp2_with fail
  refine (clone8_n _ lt c2 T _ HLT (by omega) (by exact R2.out.below HB2.out) N2.out).mono ?_
  rintro e v3 ⟨x2, rfl, rr, bel⟩
  have HB3 : Hid (Below w'.heap.size w' v3) := HB2.out.trans (bel.mono HB2.out.size)
  have RO3 : Hid (Row .u8 v3 x0 O) := RO2.out.below bel
  have RE3 : Hid (Row .u8 v3 x1 E) := RE2.out.below bel
  have RT3 : Hid (Row .u8 v3 x2 T) := rr
  clear bel rr RO2 RE2 HB2
  go_wp2_with fail
  refine (clone9_n _ l1 c3 A _ HL1 (by omega) (by exact R3.out.below HB3.out) N3.out).mono ?_
  rintro e v4 ⟨y0, rfl, rr, bel⟩
  have HB4 : Hid (Below w'.heap.size w' v4) := HB3.out.trans (bel.mono HB3.out.size)
  have RO4 : Hid (Row .u8 v4 x0 O) := RO3.out.below bel
  have RE4 : Hid (Row .u8 v4 x1 E) := RE3.out.below bel
  have RT4 : Hid (Row .u8 v4 x2 T) := RT3.out.below bel
  have RA4 : Hid (Row .i64 v4 y0 A) := rr
  clear bel rr RO3 RE3 RT3 HB3
  go_wp2_with fail
  refine (clone9_n _ l2 c4 I _ HL2 (by omega) (by exact R4.out.below HB4.out) N4.out).mono ?_
  rintro e w4 ⟨y1, rfl, rr, bel⟩
  have HB5 : Hid (Below w'.heap.size w' w4) := HB4.out.trans (bel.mono HB4.out.size)
  have RO5 : Hid (Row .u8 w4 x0 O) := RO4.out.below bel
  have RE5 : Hid (Row .u8 w4 x1 E) := RE4.out.below bel
  have RT5 : Hid (Row .u8 w4 x2 T) := RT4.out.below bel
  have RA5 : Hid (Row .i64 w4 y0 A) := RA4.out.below bel
  have RI5 : Hid (Row .i64 w4 y1 I) := rr
  clear bel rr RO4 RE4 RT4 RA4 HB4 R0 R1 R2 R3 R4 N0 N2 N3 N4
  obtain ⟨i0, hi, hz0, hz1, hz2⟩ := info_parts info5
  go_wp2_with (first | (at_make; refine wpList_make_own _ rfl _ _ 22 rfl w4.heap.size 5 i0 (.int .u8 0) 1 Trym.underlying22 hi hz0 hz1 _ _ _ (2 + lo + le + lt) rfl rfl (by omega) ?b1 ?b2 ?b3 ?_))
  case b1 => rw [hz2]; omega
  case b2 => unfold maxLen; omega
  case b3 => exact Nat.le_refl _
  intro w5 hown5 hg5
  go_wp2_with (first | (at_builtin; refine wpList_append_fits _ rfl (.tmp 105) (.tmp 106) 22 rfl w4.heap.size 5 i0 1 Trym.underlying22 hi hz1 w4.heap.size 0 (2 + lo + le + lt) [] rfl (hown5.alloc _) ⟨w5.heap.size, 0, none⟩ 2 2 [.int .u8 45, .int .u8 45] rfl rfl (dashes_new w5) (by intro u hu; simp at hu; subst hu; rfl) (by omega) ?_))
  intro w6 hown6 hg6
  have HG6 : Hid (Below w4.heap.size w4 w6) := ((((Below.refl _ _).grown hg5 (Nat.le_refl _) (by intro k hk; cases hk)).alloc hg5.size _).grown hg6 (by have := hg5.size; simp; omega) (by intro k hk; cases hk; exact Nat.le_refl _))
  have s6 : w4.heap.size ≤ w6.heap.size := HG6.out.size
  clear hown5 hg5 hg6
  go_wp2_with (first | (at_builtin; refine wpList_append_fits_any _ rfl (.tmp 108) (.tmp 109) 22 rfl w4.heap.size 5 i0 1 Trym.underlying22 hi hz1 w4.heap.size 2 (2 + lo + le + lt) _ rfl hown6 x0 lo lo (O.map (Value.int .u8)) rfl (by simp [HLO.out]) (row_none RO5.out HLO.out) (row_news (RO5.out.below HG6.out)) (ints_oneCell _ _) (by omega) ?_))
  intro w7 hown7 hg7
  have HG7 : Hid (Below w4.heap.size w4 w7) := HG6.out.grown hg7 s6 (by intro k hk; cases hk; exact Nat.le_refl _)
  have s7 : w4.heap.size ≤ w7.heap.size := HG7.out.size
  clear hown6 hg7 HG6 s6
  go_wp2_with (first | (at_builtin; refine wpList_append_fits_any _ rfl (.tmp 111) (.tmp 112) 22 rfl w4.heap.size 5 i0 1 Trym.underlying22 hi hz1 w4.heap.size (2 + lo) (2 + lo + le + lt) _ rfl hown7 x1 le le (E.map (Value.int .u8)) rfl (by simp [HLE.out]) (row_none RE5.out HLE.out) (row_news (RE5.out.below HG7.out)) (ints_oneCell _ _) (by omega) ?_))
  intro w71 hown71 hg71
  have HG71 : Hid (Below w4.heap.size w4 w71) := HG7.out.grown hg71 s7 (by intro k hk; cases hk; exact Nat.le_refl _)
  have s71 : w4.heap.size ≤ w71.heap.size := HG71.out.size
  clear hown7 hg71 HG7 s7
  go_wp2_with (first | (at_builtin; refine wpList_append_fits_any _ rfl (.tmp 114) (.tmp 115) 22 rfl w4.heap.size 5 i0 1 Trym.underlying22 hi hz1 w4.heap.size (2 + lo + le) (2 + lo + le + lt) _ rfl hown71 x2 lt lt (T.map (Value.int .u8)) rfl (by simp [HLT.out]) (row_none RT5.out HLT.out) (row_news (RT5.out.below HG71.out)) (ints_oneCell _ _) (by omega) ?_))
  intro w8 hown8 hg8
  have HG8 : Hid (Below w4.heap.size w4 w8) := HG71.out.grown hg8 s71 (by intro k hk; cases hk; exact Nat.le_refl _)
  have s8 : w4.heap.size ≤ w8.heap.size := HG8.out.size
  clear hown71 hg8 HG71 s71
  have HLN : Hid (∀ i, i < 2 + lo + le + lt → w8.cell? ⟨w4.heap.size, i, none⟩ = some (.int .u8 ((([45, 45] ++ (O ++ E)) ++ T).getD i 0))) := line_cells2 HLO.out HLE.out HLT.out hown8
  have RT8 : Hid (Row .u8 w8 x2 T) := RT5.out.below HG8.out
  have RA8 : Hid (Row .i64 w8 y0 A) := RA5.out.below HG8.out
  have RI8 : Hid (Row .i64 w8 y1 I) := RI5.out.below HG8.out
  have HB8 : Hid (Below w'.heap.size w' w8) := HB5.out.trans (HG8.out.mono HB5.out.size)
  clear hown8 HG8 s8 RO5 RE5 RT5 RA5 RI5 HB5 hi hz0 hz1 hz2
  generalize w4.heap.size = G at *
  go_wp2_with fail
  refine (step10 _ _ _ _ _ _).mono ?_
  rintro e w9 ⟨rfl, rfl⟩
  go_wp2_with fail
  refine (node11 _ _ _ _ _ _ _).mono ?_
  rintro e w9 ⟨rfl, rfl⟩
  go_wp2_with fail
  refine (step10 _ _ _ _ _ _).mono ?_
  rintro e w9 ⟨rfl, rfl⟩
  go_wp2_with fail
  refine (node11 _ _ _ _ _ _ _).mono ?_
  rintro e w9 ⟨rfl, rfl⟩
  go_wp2_with fail
  refine (step10 _ _ _ _ _ _).mono ?_
  rintro e w9 ⟨rfl, rfl⟩
  go_wp2_with fail
  refine (node11 _ _ _ _ _ _ _).mono ?_
  rintro e w9 ⟨rfl, rfl⟩
  go_wp2_with fail
  refine (step10 _ _ _ _ _ _).mono ?_
  rintro e w9 ⟨rfl, rfl⟩
  go_wp2_with fail
  refine (line13 _ _ _ _).mono ?_
  rintro e w9 ⟨rfl, rfl⟩
  go_wp2_with fail
  have hP : ([45, 45] ++ (O ++ E) : List Int).length = 2 + lo + le := by simp [HLO.out, HLE.out]; omega
  obtain ⟨sh, hsh, hlo, hab⟩ := shown_spec ([45, 45] ++ (O ++ E)) T (by simp) (by rw [hP]; exact last_of2 HLO.out HLE.out hp1 HX.out HB.out)
  have HT := told2_law A I t ([45, 45] ++ (O ++ E)) T (2 + lo) sh HSA.out HSI.out (by omega) (by rw [hP]; omega) hlo hab
  have HLL2 : Hid ((([45, 45] ++ (O ++ E)) ++ T).length = 2 + lo + le + lt) := by
    show (([45, 45] ++ (O ++ E)) ++ T).length = _
    rw [List.length_append, hP, HLT.out]
  have HLA : Hid (LineAt (wTwo w8 x0 x1 y0 y1 lo le lt l1 l2 G) (w8.heap.size + 1 + 1 + 1 + 1 + 1 + 1 + 1 + 1) G (2 + lo + le + lt) (([45, 45] ++ (O ++ E)) ++ T)) := two_line w8 x0 x1 y0 y1 lo le lt l1 l2 G _ HLL2.out HLN.out
  have TC := told12_n (w8.heap.size + 1 + 1 + 1 + 1 + 1 + 1 + 1) 4 4 (2 + lo + le + lt) [(1, []), (2, []), (2 + (lo : Int), A), ((([45, 45] ++ (O ++ E) : List Int).length : Int), I)] t (w8.heap.size + 1 + 1 + 1 + 1 + 1 + 1 + 1 + 1) G (2 + lo + le + lt) (([45, 45] ++ (O ++ E)) ++ T) sh (wTwo w8 x0 x1 y0 y1 lo le lt l1 l2 G) rfl HLL2
    (two_steps w8 x0 x1 y0 y1 lo le lt l1 l2 G _ A I hP (by omega) (by omega) HL1.out HL2.out (by omega) (by omega) HSA.out HSI.out RA8.out RI8.out) (by omega) (by omega) HLA hsh (by omega) (2 + lo + le + lt) (by omega)
  rw [show (4 - 2 : Nat) = 2 from rfl, HT] at TC
  have HW : Hid (Below w'.heap.size w' (wTwo w8 x0 x1 y0 y1 lo le lt l1 l2 G)) := HB8.out.trans ((wTwo_below w8 x0 x1 y0 y1 lo le lt l1 l2 G).mono HB8.out.size)
  have RTW : Hid (Row .u8 (wTwo w8 x0 x1 y0 y1 lo le lt l1 l2 G) x2 T) := RT8.out.below (wTwo_below ..)
  have RAW : Hid (Row .i64 (wTwo w8 x0 x1 y0 y1 lo le lt l1 l2 G) y0 A) := RA8.out.below (wTwo_below ..)
  have RIW : Hid (Row .i64 (wTwo w8 x0 x1 y0 y1 lo le lt l1 l2 G) y1 I) := RI8.out.below (wTwo_below ..)
  have LNW : Hid (∀ i, i < 2 + lo + le + lt → (wTwo w8 x0 x1 y0 y1 lo le lt l1 l2 G).cell? ⟨G, i, none⟩ = some (.int .u8 ((([45, 45] ++ (O ++ E)) ++ T).getD i 0))) := by
    intro i hi
    exact HLA.out.row i (by rw [HLL2.out]; exact hi)
  refine TC.mono ?_
  clear TC HT hsh hlo hab hP HLN RT8 RA8 RI8 HB8 HX HB HLA
  rintro e w9 ⟨rfl, n9, rfl⟩
  generalize hW : (wTwo w8 x0 x1 y0 y1 lo le lt l1 l2 G).drewN n9 = W
  have HWW : Hid (Below w'.heap.size w' W) := by rw [← hW]; exact ⟨HW.out.os, HW.out.tape, HW.out.output, HW.out.size, HW.out.block⟩
  have RTW' : Hid (Row .u8 W x2 T) := by rw [← hW]; exact RTW.out
  have RAW' : Hid (Row .i64 W y0 A) := by rw [← hW]; exact RAW.out
  have RIW' : Hid (Row .i64 W y1 I) := by rw [← hW]; exact RIW.out
  have LNW' : Hid (∀ i, i < 2 + lo + le + lt → W.cell? ⟨G, i, none⟩ = some (.int .u8 ((([45, 45] ++ (O ++ E)) ++ T).getD i 0))) := by rw [← hW]; exact LNW.out
  clear hW HW RTW RAW RIW LNW
  generalize hln : ([45, 45] ++ (O ++ E)) ++ T = ln at *
  obtain ⟨d, hd⟩ : ∃ d, d = dashB ln (2 + lo) := ⟨_, rfl⟩
  obtain ⟨v1, hv1⟩ : ∃ v, v = lvl A t := ⟨_, rfl⟩
  obtain ⟨v2, hv2⟩ : ∃ v, v = lvl I t := ⟨_, rfl⟩
  rw [← hd, ← hv1, ← hv2]
  have HD : Hid (d = dashB ln (2 + lo)) := hd
  have HV1 : Hid (v1 = lvl A t) := hv1
  have HV2 : Hid (v2 = lvl I t) := hv2
  clear hln hd hv1 hv2
  obtain ⟨R, hR⟩ : ∃ R, R = told2 (v1.isSome && d) (v2.isSome && opensDash T) (v2.isSome && allBlank T) (v1.getD 0) (v2.getD 0) := ⟨_, rfl⟩
  rw [← hR]
  have HR : Hid (R = told2 (v1.isSome && d) (v2.isSome && opensDash T) (v2.isSome && allBlank T) (v1.getD 0) (v2.getD 0)) := hR
  clear hR
  obtain ⟨R1, R2⟩ := R
  simp only
  go_wp2_with fail
  refine (least14_n y0 l1 l1 A t W HL1 (by omega) HSA RAW'.out).mono ?_
  rintro e w10 ⟨rfl, hw10⟩
  rw [hw10, ← HV1.out]
  clear hw10 w10
  go_wp2_with fail
  refine (least14_n y1 l2 l2 I t W HL2 (by omega) HSI RIW'.out).mono ?_
  rintro e w10 ⟨rfl, hw10⟩
  rw [hw10, ← HV2.out]
  clear hw10 w10
  generalize v1.getD 0 = g1 at *
  generalize v1.isSome = f1 at *
  generalize v2.getD 0 = g2 at *
  generalize v2.isSome = f2 at *
  clear HV1 HV2 HSA HSI RAW' RIW' HL1 HL2
  go_upto_region 24 with fail
  go_cut [24] (fun v wc => v = .bool (f1 && d) ∧ wc = W)
  case first =>
    as_aux_lemma =>
    cases f1 with
    | false =>
      go_wp2
      go_meet
      case rel => exact ⟨rfl, rfl⟩
    | true =>
      have HDA : Hid (d = (decide (2 + lo + 2 ≤ 2 + lo + le + lt) && ln.getD (2 + lo) 0 == 45 && ln.getD (2 + lo + 1) 0 == 45)) := by
        show d = _
        rw [HD.out, ← dash_at (2 + lo) HLL2.out]
        simp
      by_cases hN : 2 ≤ le + lt
      · have cz0 : W.cell? ⟨G, 2 + lo, none⟩ = some (.int .u8 (ln.getD (2 + lo) 0)) := LNW'.out _ (by omega)
        have cz1 : W.cell? ⟨G, 2 + lo + 1, none⟩ = some (.int .u8 (ln.getD (2 + lo + 1) 0)) := LNW'.out _ (by omega)
        generalize ln.getD (2 + lo) 0 = z0 at *
        generalize ln.getD (2 + lo + 1) 0 = z1 at *
        have hdd : decide (2 + lo + 2 ≤ 2 + lo + le + lt) = true := decide_eq_true (by omega)
        rw [hdd] at HDA
        clear hdd
        have hle2 : (2 : Int) + lo + 2 ≤ 2 + lo + le + lt := by omega
        cases hz : (z0 == 45) with
        | false =>
          have hd : d = false := by rw [HDA.out, hz]; rfl
          clear HDA HD
          subst hd
          go_wp2
          go_meet
          case rel => exact ⟨rfl, rfl⟩
        | true =>
          have hd : d = (z1 == 45) := by rw [HDA.out, hz]; simp
          clear HDA HD
          subst hd
          go_wp2
          go_meet
          case rel => exact ⟨rfl, rfl⟩
      · have hd : d = false := by
          rw [HDA.out, show decide (2 + lo + 2 ≤ 2 + lo + le + lt) = false from decide_eq_false (by omega)]
          rfl
        have hle2 : ¬ ((2 : Int) + lo + 2 ≤ 2 + lo + le + lt) := by omega
        clear HDA HD
        subst hd
        go_wp2
        go_meet
        case rel => exact ⟨rfl, rfl⟩
  case rest =>
  obtain ⟨rfl, hwc⟩ := hcut
  rw [hwc]
  clear hwc wc LNW' HLL2 HD
  generalize (f1 && d) = oc at *
  go_upto_region 25 with fail
  go_cut [25] (fun v wc => v = .bool (f2 && opensDash T) ∧ wc = W)
  case first =>
    as_aux_lemma =>
    cases f2 with
    | false =>
      go_wp2
      go_meet
      case rel => exact ⟨rfl, rfl⟩
    | true =>
      by_cases h2t : 2 ≤ lt
      · rcases id RTW'.out with hnil | ⟨bt, ot, rfl, hct⟩
        · exact absurd HLT.out (by rw [hnil]; simp; omega)
        have cy0 : W.cell? ⟨bt, ot, none⟩ = some (.int .u8 (T.getD 0 0)) := by simpa using hct 0 (by rw [HLT.out]; omega)
        have cy1 : W.cell? ⟨bt, ot + 1, none⟩ = some (.int .u8 (T.getD 1 0)) := hct 1 (by rw [HLT.out]; omega)
        have HO : Hid (opensDash T = (T.getD 0 0 == 45 && T.getD 1 0 == 45)) := by
          show opensDash T = _
          unfold opensDash
          simp [HLT.out, h2t]
        clear hct
        generalize T.getD 0 0 = z0 at *
        generalize T.getD 1 0 = z1 at *
        cases hz : (z0 == 45) with
        | true =>
          have hd : opensDash T = (z1 == 45) := by rw [HO.out, hz]; simp
          have HE : Hid (opensDash T = (z1 == 45)) := hd
          clear HO hd
          go_wp2
          go_meet
          case rel => exact ⟨by rw [HE.out]; rfl, rfl⟩
        | false =>
          have hd : opensDash T = false := by rw [HO.out, hz]; rfl
          have HE : Hid (opensDash T = false) := hd
          clear HO hd
          go_wp2
          go_meet
          case rel => exact ⟨by rw [HE.out]; rfl, rfl⟩
      · have HE : Hid (opensDash T = false) := by
          show opensDash T = false
          unfold opensDash
          simp [HLT.out, h2t]
        have h2t' : lt < 2 := by omega
        go_wp2
        go_meet
        case rel => exact ⟨by rw [HE.out]; rfl, rfl⟩
  case rest =>
  obtain ⟨rfl, hwc⟩ := hcut
  rw [hwc]
  clear hwc wc
  generalize (f2 && opensDash T) = ic at *
  go_upto_region 26 with fail
  go_cut [26] (fun v wc => v = .bool (f2 && allBlank T) ∧ wc = W)
  case first =>
    as_aux_lemma =>
    cases f2 with
    | false =>
      go_wp2
      go_meet
      case rel => exact ⟨rfl, rfl⟩
    | true =>
      go_wp2_with fail
      refine (all15_n x2 lt lt T W HLT (by omega) RTW'.out).mono ?_
      rintro e w10 ⟨rfl, hw10⟩
      rw [hw10]
      clear hw10 w10
      go_wp2_with fail
      go_meet
      case rel => exact ⟨rfl, rfl⟩
  case rest =>
  obtain ⟨rfl, hwc⟩ := hcut
  rw [hwc]
  clear hwc wc
  generalize (f2 && allBlank T) = io at *
  clear RTW' HLT HLO HLE
  cases ic with
  | true =>
    by_cases h12 : g1 < g2
    · cases oc with
      | true =>
        have hR : (R1, R2) = (g1, true) := by rw [HR.out]; simp [told2, h12]
        obtain ⟨rfl, rfl⟩ := Prod.mk.inj hR
        clear HR hR
        as_aux_lemma =>
        go_wp2
        go_ret
        exact ⟨by simp, HWW.out⟩
      | false =>
        have hR : (R1, R2) = (g2, true) := by rw [HR.out]; simp [told2]
        obtain ⟨rfl, rfl⟩ := Prod.mk.inj hR
        clear HR hR
        as_aux_lemma =>
        go_wp2
        go_ret
        exact ⟨by simp, HWW.out⟩
    · have hR : (R1, R2) = (g2, true) := by rw [HR.out]; simp [told2, h12]
      have hd : decide (g1 < g2) = false := decide_eq_false h12
      obtain ⟨rfl, rfl⟩ := Prod.mk.inj hR
      clear HR hR
      cases oc with
      | true =>
        as_aux_lemma =>
        go_wp2
        go_ret
        exact ⟨by simp, HWW.out⟩
      | false =>
        as_aux_lemma =>
        go_wp2
        go_ret
        exact ⟨by simp, HWW.out⟩
  | false =>
    cases io with
    | true =>
      by_cases h12 : g1 ≤ g2
      · cases oc with
        | true =>
          have hR : (R1, R2) = (g1, true) := by rw [HR.out]; simp [told2, h12]
          obtain ⟨rfl, rfl⟩ := Prod.mk.inj hR
          clear HR hR
          as_aux_lemma =>
          go_wp2
          go_ret
          exact ⟨by simp, HWW.out⟩
        | false =>
          have hR : (R1, R2) = (g2, false) := by rw [HR.out]; simp [told2]
          obtain ⟨rfl, rfl⟩ := Prod.mk.inj hR
          clear HR hR
          as_aux_lemma =>
          go_wp2
          go_ret
          exact ⟨by simp, HWW.out⟩
      · have hR : (R1, R2) = (g2, false) := by rw [HR.out]; simp [told2, h12]
        obtain ⟨rfl, rfl⟩ := Prod.mk.inj hR
        clear HR hR
        cases oc with
        | true =>
          as_aux_lemma =>
          go_wp2
          go_ret
          exact ⟨by simp, HWW.out⟩
        | false =>
          as_aux_lemma =>
          go_wp2
          go_ret
          exact ⟨by simp, HWW.out⟩
    | false =>
      cases oc with
      | true =>
        have hR : (R1, R2) = (g1, true) := by rw [HR.out]; simp [told2]
        obtain ⟨rfl, rfl⟩ := Prod.mk.inj hR
        clear HR hR
        as_aux_lemma =>
        go_wp2
        go_ret
        exact ⟨by simp, HWW.out⟩
      | false =>
        have hR : (R1, R2) = ((-1, false) : Int × Bool) := by rw [HR.out]; simp [told2]
        obtain ⟨rfl, rfl⟩ := Prod.mk.inj hR
        clear HR hR
        as_aux_lemma =>
        go_wp2
        go_ret
        exact ⟨by simp, HWW.out⟩
end Go.Proofs.Qxb6605764aMods
