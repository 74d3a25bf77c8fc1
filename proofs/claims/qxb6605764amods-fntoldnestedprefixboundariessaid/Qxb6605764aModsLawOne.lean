import Derived.Test.Qxb6605764aModsWorld
namespace Go.Proofs.Qxb6605764aMods
open Go.RowKit
set_option linter.unusedVariables false

def YesPost (w : World) (e : Ending) (w' : World) : Prop := e = .returned (.bool true) ∧ Below w.heap.size w w'

section
variable (a0 a1 a2 : Option Addr) (c0 c1 c2 : Nat) (B T L : List Int) (t : Int) (w : World)

theorem one_big (m0 : B.length ≤ maxLen) (m1 : T.length ≤ maxLen) (m2 : L.length ≤ maxLen) (h : ¬ B.length + T.length + L.length ≤ 1048576) :
    Calls Trym.prog 3 #[.slice a0 B.length c0, .slice a1 T.length c1, .slice a2 L.length c2, .int .i64 t] w (YesPost w) := by
  have C := bytes5_no a0 a1 a2 B.length c0 T.length c1 L.length c2 t w m0 m1 m2 h
  have HC : Hid (Calls Trym.prog 5 #[.slice a0 B.length c0, .slice a1 T.length c1, .slice a2 L.length c2, .int .i64 t] w fun e w' => e = .returned (.bool false) ∧ w' = w) := C
  clear C h
  go_enter Trym.func3, Trym.ntmps3
  go_wp2_with fail
  refine HC.out.mono ?_
  rintro e w' ⟨rfl, rfl⟩
  go_wp2_with fail
  go_ret
  exact ⟨rfl, Below.refl _ _⟩

theorem one_long (h : B.length + T.length + L.length ≤ 1048576) (h1 : 262144 < B.length ∨ 262144 < T.length ∨ 65536 < L.length) :
    Calls Trym.prog 3 #[.slice a0 B.length c0, .slice a1 T.length c1, .slice a2 L.length c2, .int .i64 t] w (YesPost w) := by
  have C := bytes5 a0 a1 a2 B.length c0 T.length c1 L.length c2 t w h
  have HC : Hid (Calls Trym.prog 5 #[.slice a0 B.length c0, .slice a1 T.length c1, .slice a2 L.length c2, .int .i64 t] w fun e w' => e = .returned (.bool true) ∧ w' = w) := C
  clear C
  generalize B.length = lb at *
  generalize T.length = lt at *
  generalize L.length = ll at *
  by_cases g0 : 262144 < lb
  · clear h1
    go_enter Trym.func3, Trym.ntmps3
    go_wp2_with fail
    refine HC.out.mono ?_
    rintro e w' ⟨rfl, rfl⟩
    go_wp2_with fail
    go_ret
    exact ⟨rfl, Below.refl _ _⟩
  · by_cases g1 : 262144 < lt
    · clear h1
      go_enter Trym.func3, Trym.ntmps3
      go_wp2_with fail
      refine HC.out.mono ?_
      rintro e w' ⟨rfl, rfl⟩
      go_wp2_with fail
      go_ret
      exact ⟨rfl, Below.refl _ _⟩
    · have g2 : 65536 < ll := by omega
      clear h1
      go_enter Trym.func3, Trym.ntmps3
      go_wp2_with fail
      refine HC.out.mono ?_
      rintro e w' ⟨rfl, rfl⟩
      go_wp2_with fail
      go_ret
      exact ⟨rfl, Below.refl _ _⟩

theorem one_nil (h1 : T.length ≤ 262144) (h2 : L.length ≤ 65536) :
    Calls Trym.prog 3 #[.slice a0 0 c0, .slice a1 T.length c1, .slice a2 L.length c2, .int .i64 t] w (YesPost w) := by
  have C := bytes5 a0 a1 a2 0 c0 T.length c1 L.length c2 t w (by omega)
  have HC : Hid (Calls Trym.prog 5 #[.slice a0 0 c0, .slice a1 T.length c1, .slice a2 L.length c2, .int .i64 t] w fun e w' => e = .returned (.bool true) ∧ w' = w) := C
  clear C
  generalize T.length = lt at *
  generalize L.length = ll at *
  go_enter Trym.func3, Trym.ntmps3
  go_wp2_with fail
  refine HC.out.mono ?_
  rintro e w' ⟨rfl, rfl⟩
  go_wp2_with fail
  go_ret
  exact ⟨rfl, Below.refl _ _⟩

/-- The boundary is not empty; its last byte is a blank: true at once. -/
theorem one_blank (b0 o0 : Nat) (hB : 0 < B.length) (h0 : B.length ≤ 262144) (h1 : T.length ≤ 262144) (h2 : L.length ≤ 65536)
    (hc : ∀ i, i < B.length → w.cell? ⟨b0, o0 + i, none⟩ = some (.int .u8 (B.getD i 0))) (hb : blankB (B.getD (B.length - 1) 0) = true) :
    Calls Trym.prog 3 #[.slice (some ⟨b0, o0, none⟩) B.length c0, .slice a1 T.length c1, .slice a2 L.length c2, .int .i64 t] w (YesPost w) := by
  have C := bytes5 (some ⟨b0, o0, none⟩) a1 a2 B.length c0 T.length c1 L.length c2 t w (by omega)
  have HC : Hid (Calls Trym.prog 5 #[.slice (some ⟨b0, o0, none⟩) B.length c0, .slice a1 T.length c1, .slice a2 L.length c2, .int .i64 t] w fun e w' => e = .returned (.bool true) ∧ w' = w) := C
  have hcx := hc (B.length - 1) (by omega)
  clear C hc
  generalize B.getD (B.length - 1) 0 = x at *
  generalize B.length = lb at *
  generalize T.length = lt at *
  generalize L.length = ll at *
  go_enter Trym.func3, Trym.ntmps3
  go_wp2_with fail
  refine HC.out.mono ?_
  rintro e w' ⟨rfl, rfl⟩
  go_wp2_with fail
  refine (blank6 _ _).mono ?_
  rintro e w' ⟨rfl, rfl⟩
  rw [hb]
  go_wp2_with fail
  go_ret
  exact ⟨rfl, Below.refl _ _⟩
end

theorem below_drewN {w w' : World} {n : Nat} (h : Below (w.drewN n).heap.size (w.drewN n) w') : Below w.heap.size w w' := ⟨h.os, h.tape, h.output, h.size, h.block⟩
theorem row_drewN {k : IntKind} {w : World} {a : Option Addr} {zs : List Int} (h : Row k w a zs) (n : Nat) : Row k (w.drewN n) a zs := h

theorem row_news {k : IntKind} {w : World} {a : Option Addr} {zs : List Int} (h : Row k w a zs) : ∀ ad, a = some ad → ∀ j u, (zs.map (Value.int k))[j]? = some u → w.cell? (ad.add j) = some u := by
  intro ad had j u hu
  rcases h with rfl | ⟨b, o, rfl, hc⟩
  · simp at hu
  · obtain rfl := Option.some.inj had
    obtain ⟨hj, rfl⟩ := List.getElem?_eq_some_iff.1 hu
    simp only [List.length_map] at hj
    rw [Addr.add_lit, hc j hj]
    simp [hj]

theorem row_none {k : IntKind} {w : World} {a : Option Addr} {zs : List Int} {n : Nat} (h : Row k w a zs) (hn : zs.length = n) : a = none → n = 0 ∧ n = 0 := by
  rintro rfl
  rcases h with rfl | ⟨b, o, hx, _⟩
  · simp at hn; omega
  · cases hx

theorem dashes_new (w : World) : ∀ j u, ([.int .u8 45, .int .u8 45] : List Value)[j]? = some u → (w.alloc (.cells #[.int .u8 45, .int .u8 45] 5)).cell? ((⟨w.heap.size, 0, none⟩ : Addr).add j) = some u := by
  intro j u hj
  match j, hj with
  | 0, hj => simp at hj; subst hj; simp [Addr.add]
  | 1, hj => simp at hj; subst hj; simp [Addr.add]

theorem line_cells {w : World} {G lb lt : Nat} {B T : List Int} (hB : B.length = lb) (hT : T.length = lt)
    (h : w.ownsRow G 5 1 (.slice (some ⟨G, 0, none⟩) (2 + lb + lt) (2 + lb + lt)) (2 + lb + lt) (.int .u8 45 :: .int .u8 45 :: (B.map (Value.int .u8) ++ T.map (Value.int .u8)))) :
    ∀ i, i < 2 + lb + lt → w.cell? ⟨G, i, none⟩ = some (.int .u8 ((([45, 45] ++ B) ++ T).getD i 0)) := by
  intro i hi
  rw [h.cellAt i (by omega)]
  have e : (.int .u8 45 :: .int .u8 45 :: (B.map (Value.int .u8) ++ T.map (Value.int .u8))) = (([45, 45] ++ B) ++ T).map (Value.int .u8) := by simp
  rw [e, List.getElem?_map]
  have hl : i < (([45, 45] ++ B) ++ T).length := by simp; omega
  rw [List.getElem?_eq_getElem hl, List.getD_eq_getElem?_getD, List.getElem?_eq_getElem hl]
  rfl

theorem last_of {B : List Int} {lb : Nat} {x : Int} (h : B.length = lb) (hpos : 0 < lb) (hx : B.getD (lb - 1) 0 = x) (hb : blankB x = false) : blankB (([45, 45] ++ B : List Int).getD (2 + lb - 1) 0) = false := by
  rw [List.getD_eq_getElem?_getD, List.getElem?_append_right (by simp; omega)]
  rw [List.getD_eq_getElem?_getD] at hx
  rw [show 2 + lb - 1 - ([45, 45] : List Int).length = lb - 1 by simp; omega, hx]
  exact hb

set_option maxRecDepth 100000 in
set_option maxHeartbeats 4000000 in
theorem one_main (a1 a2 : Option Addr) (c0 c1 c2 : Nat) (B T L : List Int) (lb lt ll : Nat) (HLB : Hid (B.length = lb)) (HLT : Hid (T.length = lt)) (HLL : Hid (L.length = ll)) (t : Int) (w : World) (b0 o0 : Nat) (hB : 0 < lb) (h0 : lb ≤ 262144) (h1 : lt ≤ 262144) (h2 : ll ≤ 65536)
    (r0 : Row .u8 w (some ⟨b0, o0, none⟩) B) (r1 : Row .u8 w a1 T) (r2 : Row .i64 w a2 L) (n1 : a1 = none → T = [] ∧ c1 = 0) (n2 : a2 = none → L = [] ∧ c2 = 0) (hb : blankB (B.getD (B.length - 1) 0) = false) :
    Calls Trym.prog 3 #[.slice (some ⟨b0, o0, none⟩) lb c0, .slice a1 lt c1, .slice a2 ll c2, .int .i64 t] w (YesPost w) := by
  have C := bytes5 (some ⟨b0, o0, none⟩) a1 a2 lb c0 lt c1 ll c2 t w (by omega)
  have HC : Hid (Calls Trym.prog 5 #[.slice (some ⟨b0, o0, none⟩) lb c0, .slice a1 lt c1, .slice a2 ll c2, .int .i64 t] w fun e w' => e = .returned (.bool true) ∧ w' = w) := C
  have HS : Hid (Calls Trym.prog 7 #[.slice a2 ll c2] w (SortPost L w)) := sorted7_n a2 ll c2 L w HLL (by omega) r2
  have hcx : w.cell? ⟨b0, o0 + (lb - 1), none⟩ = some (.int .u8 (B.getD (lb - 1) 0)) := by
    rcases r0 with h | ⟨b, o, hx, hc⟩
    · have := HLB.out; rw [h] at this; simp at this; omega
    · obtain ⟨rfl, rfl⟩ : b = b0 ∧ o = o0 := by simpa [eq_comm] using hx
      exact hc _ (by rw [HLB.out]; omega)
  rw [HLB.out] at hb
  have R0 : Hid (Row .u8 w (some ⟨b0, o0, none⟩) B) := r0
  have R1 : Hid (Row .u8 w a1 T) := r1
  have R2 : Hid (Row .i64 w a2 L) := r2
  have N1 : Hid (a1 = none → T = [] ∧ c1 = 0) := n1
  have N2 : Hid (a2 = none → L = [] ∧ c2 = 0) := n2
  clear C r0 r1 r2 n1 n2
  generalize hx : B.getD (lb - 1) 0 = x at *
  have HX : Hid (B.getD (lb - 1) 0 = x) := hx
  clear hx
  have HB : Hid (blankB x = false) := hb
  clear hb
  go_enter Trym.func3, Trym.ntmps3
  go_wp2_with fail
  refine HC.out.mono ?_
  rintro e w' ⟨rfl, rfl⟩
  go_wp2_with fail
  refine (blank6 _ _).mono ?_
  rintro e w' ⟨rfl, rfl⟩
  rw [HB.out]
  go_wp2_with fail
  refine HS.out.mono ?_
  rintro e w1 ⟨q, rfl, hq, m, rfl⟩
  clear HC HS hcx
  cases q with
  | false =>
    go_wp2_with fail
    go_ret
    exact ⟨rfl, ⟨rfl, rfl, rfl, Nat.le_refl _, fun _ _ => rfl⟩⟩
  | true =>
    have HSO : Hid (Sorted L) := hq rfl
    clear hq
    go_wp2_with fail
    refine (clone8_n _ lb c0 B _ HLB (by omega) (by exact row_drewN R0.out _) (by intro h; cases h)).mono ?_
    rintro e w2 ⟨x0, rfl, rB, bel⟩
    have HB2 : Hid (Below w'.heap.size w' w2) := below_drewN bel
    have RB2 : Hid (Row .u8 w2 x0 B) := rB
    clear bel rB
    go_wp2_with fail
    refine (clone8_n _ lt c1 T _ HLT (by omega) (by exact R1.out.below HB2.out) N1.out).mono ?_
    rintro e w3 ⟨x1, rfl, rT, bel⟩
    have HB3 : Hid (Below w'.heap.size w' w3) := HB2.out.trans (bel.mono HB2.out.size)
    have RB3 : Hid (Row .u8 w3 x0 B) := RB2.out.below bel
    have RT3 : Hid (Row .u8 w3 x1 T) := rT
    clear bel rT RB2 HB2
    go_wp2_with fail
    refine (clone9_n _ ll c2 L _ HLL (by omega) (by exact R2.out.below HB3.out) N2.out).mono ?_
    rintro e w4 ⟨x2, rfl, rL, bel⟩
    have HB4 : Hid (Below w'.heap.size w' w4) := HB3.out.trans (bel.mono HB3.out.size)
    have RB4 : Hid (Row .u8 w4 x0 B) := RB3.out.below bel
    have RT4 : Hid (Row .u8 w4 x1 T) := RT3.out.below bel
    have RL4 : Hid (Row .i64 w4 x2 L) := rL
    clear bel rL RB3 HB3 RT3 R0 R1 R2 N1 N2
    obtain ⟨i0, hi, hz0, hz1, hz2⟩ := info_parts info5
    go_wp2_with (first | (at_make; refine wpList_make_own _ rfl _ _ 22 rfl w4.heap.size 5 i0 (.int .u8 0) 1 Trym.underlying22 hi hz0 hz1 _ _ _ (2 + lb + lt) rfl rfl (by omega) ?b1 ?b2 ?b3 ?_))
    case b1 => rw [hz2]; omega
    case b2 => unfold maxLen; omega
    case b3 => exact Nat.le_refl _
    intro w5 hown5 hg5
    go_wp2_with (first | (at_builtin; refine wpList_append_fits _ rfl (.tmp 65) (.tmp 66) 22 rfl w4.heap.size 5 i0 1 Trym.underlying22 hi hz1 w4.heap.size 0 (2 + lb + lt) [] rfl (hown5.alloc _) ⟨w5.heap.size, 0, none⟩ 2 2 [.int .u8 45, .int .u8 45] rfl rfl (dashes_new w5) (by intro u hu; simp at hu; subst hu; rfl) (by omega) ?_))
    intro w6 hown6 hg6
    have HG6 : Hid (Below w4.heap.size w4 w6) := ((((Below.refl _ _).grown hg5 (Nat.le_refl _) (by intro k hk; cases hk)).alloc hg5.size _).grown hg6 (by have := hg5.size; simp; omega) (by intro k hk; cases hk; exact Nat.le_refl _))
    have s6 : w4.heap.size ≤ w6.heap.size := HG6.out.size
    clear hown5 hg5 hg6
    go_wp2_with (first | (at_builtin; refine wpList_append_fits_any _ rfl (.tmp 68) (.tmp 69) 22 rfl w4.heap.size 5 i0 1 Trym.underlying22 hi hz1 w4.heap.size 2 (2 + lb + lt) _ rfl hown6 x0 lb lb (B.map (Value.int .u8)) rfl (by simp [HLB.out]) (row_none RB4.out HLB.out) (row_news (RB4.out.below HG6.out)) (ints_oneCell _ _) (by omega) ?_))
    intro w7 hown7 hg7
    have HG7 : Hid (Below w4.heap.size w4 w7) := HG6.out.grown hg7 s6 (by intro k hk; cases hk; exact Nat.le_refl _)
    have s7 : w4.heap.size ≤ w7.heap.size := HG7.out.size
    clear hown6 hg7 HG6 s6
    go_wp2_with (first | (at_builtin; refine wpList_append_fits_any _ rfl (.tmp 71) (.tmp 72) 22 rfl w4.heap.size 5 i0 1 Trym.underlying22 hi hz1 w4.heap.size (2 + lb) (2 + lb + lt) _ rfl hown7 x1 lt lt (T.map (Value.int .u8)) rfl (by simp [HLT.out]) (row_none RT4.out HLT.out) (row_news (RT4.out.below HG7.out)) (ints_oneCell _ _) (by omega) ?_))
    intro w8 hown8 hg8
    have HG8 : Hid (Below w4.heap.size w4 w8) := HG7.out.grown hg8 s7 (by intro k hk; cases hk; exact Nat.le_refl _)
    have s8 : w4.heap.size ≤ w8.heap.size := HG8.out.size
    clear hown7 hg8 HG7 s7
    have HLN : Hid (∀ i, i < 2 + lb + lt → w8.cell? ⟨w4.heap.size, i, none⟩ = some (.int .u8 ((([45, 45] ++ B) ++ T).getD i 0))) := line_cells HLB.out HLT.out hown8
    have RT8 : Hid (Row .u8 w8 x1 T) := RT4.out.below HG8.out
    have RL8 : Hid (Row .i64 w8 x2 L) := RL4.out.below HG8.out
    have HB8 : Hid (Below w'.heap.size w' w8) := HB4.out.trans (HG8.out.mono HB4.out.size)
    have HGL : Hid (w4.heap.size < w8.heap.size) := by
      have := HLN.out 0 (by omega)
      exact lt_of_cell this
    clear hown8 HG8 s8 RB4 RT4 RL4 HB4 hi hz0 hz1 hz2
    generalize w4.heap.size = G at *
    go_wp2_with fail
    refine (step10 _ _ _ _ _ _).mono ?_
    rintro e w9 ⟨rfl, rfl⟩
    go_wp2_with fail
    refine (node11 _ _ _ _ _ _ _).mono ?_
    rintro e w9 ⟨rfl, rfl⟩
    go_wp2_with fail
    refine (step10 _ _ _ _ _ _).mono ?_
    rintro e w9 ⟨rfl, rfl⟩
    go_wp2_with fail
    refine (node11 _ _ _ _ _ _ _).mono ?_
    rintro e w9 ⟨rfl, rfl⟩
    go_wp2_with fail
    refine (step10 _ _ _ _ _ _).mono ?_
    rintro e w9 ⟨rfl, rfl⟩
    go_wp2_with fail
    refine (line13 _ _ _ _).mono ?_
    rintro e w9 ⟨rfl, rfl⟩
    go_wp2_with fail
    have hP : ([45, 45] ++ B : List Int).length = 2 + lb := by simp [HLB.out]; omega
    obtain ⟨sh, hsh, hlo, hab⟩ := shown_spec ([45, 45] ++ B) T (by simp) (by rw [hP]; exact last_of HLB.out hB HX.out HB.out)
    have HT : Hid (p3 t sh [(1, []), (2, []), ((([45, 45] ++ B : List Int).length : Int), L)] 3 (p1 t (([45, 45] ++ B) ++ T) [(1, []), (2, []), ((([45, 45] ++ B : List Int).length : Int), L)] 1 (-1, false)) = told1 L t T) := told1_law L t ([45, 45] ++ B) T sh HSO.out (by rw [hP]; omega) hlo hab
    have HLL2 : Hid ((([45, 45] ++ B) ++ T).length = 2 + lb + lt) := by
      show (([45, 45] ++ B) ++ T).length = _
      rw [List.length_append, hP, HLT.out]
    have HSH : Hid (Shown (([45, 45] ++ B) ++ T) sh) := hsh
    have TC := told12_n (w8.heap.size + 1 + 1 + 1 + 1 + 1) 3 3 (2 + lb + lt) [(1, []), (2, []), ((([45, 45] ++ B : List Int).length : Int), L)] t (w8.heap.size + 1 + 1 + 1 + 1 + 1 + 1) G (2 + lb + lt) (([45, 45] ++ B) ++ T) sh (wOne w8 x0 x2 lb lt ll G) rfl HLL2
      (one_steps w8 x0 x2 lb lt ll G _ L hP (by omega) HLL.out (by omega) HSO.out RL8.out) (by omega) (by omega) (one_line w8 x0 x2 lb lt ll G _ HLL2.out HLN.out) HSH (by omega) (2 + lb + lt) (by omega)
    rw [show (3 - 2 : Nat) = 1 from rfl, HT.out] at TC
    have HW : Hid (Below w'.heap.size w' (wOne w8 x0 x2 lb lt ll G)) := HB8.out.trans ((wOne_below w8 x0 x2 lb lt ll G).mono HB8.out.size)
    have RTW : Hid (Row .u8 (wOne w8 x0 x2 lb lt ll G) x1 T) := RT8.out.below (wOne_below w8 x0 x2 lb lt ll G)
    have RLW : Hid (Row .i64 (wOne w8 x0 x2 lb lt ll G) x2 L) := RL8.out.below (wOne_below w8 x0 x2 lb lt ll G)
    refine TC.mono ?_
    clear TC HT HSH hsh hlo hab hP HLL2 HLN RT8 RL8 HB8 HGL HX HB
    rintro e w9 ⟨rfl, n9, rfl⟩
    generalize hW : (wOne w8 x0 x2 lb lt ll G).drewN n9 = W
    have HWW : Hid (Below w'.heap.size w' W) := by rw [← hW]; exact ⟨HW.out.os, HW.out.tape, HW.out.output, HW.out.size, HW.out.block⟩
    have RTW' : Hid (Row .u8 W x1 T) := by rw [← hW]; exact RTW.out
    have RLW' : Hid (Row .i64 W x2 L) := by rw [← hW]; exact RLW.out
    clear hW HW RTW RLW
    obtain ⟨R, hR⟩ : ∃ R, R = told1 L t T := ⟨_, rfl⟩
    rw [← hR]
    have HR : Hid (R = told1 L t T) := hR
    clear hR
    obtain ⟨R1, R2⟩ := R
    simp only
    go_wp2_with fail
    refine (least14_n x2 ll ll L t W HLL (by omega) HSO RLW'.out).mono ?_
    rintro e w10 ⟨rfl, rfl⟩
    cases hv : lvl L t with
    | none =>
      have hR : (R1, R2) = ((-1, false) : Int × Bool) := by rw [HR.out]; unfold told1; rw [hv]
      obtain ⟨rfl, rfl⟩ := Prod.mk.inj hR
      clear hR HR hv
      simp only [Option.getD_none, Option.isSome_none]
      go_wp2_with fail
      go_ret
      exact ⟨rfl, HWW.out⟩
    | some l =>
      have HR' : Hid ((R1, R2) = if opensDash T then (l, true) else if allBlank T then (l, false) else (-1, false)) := by
        show (R1, R2) = _
        rw [HR.out]; unfold told1; rw [hv]
      clear HR hv
      simp only [Option.getD_some, Option.isSome_some]
      by_cases h2t : 2 ≤ lt
      · rcases id RTW'.out with hnil | ⟨bt, ot, rfl, hct⟩
        · exact absurd HLT.out (by rw [hnil]; simp; omega)
        have cy0 : w10.cell? ⟨bt, ot, none⟩ = some (.int .u8 (T.getD 0 0)) := by simpa using hct 0 (by rw [HLT.out]; omega)
        have cy1 : w10.cell? ⟨bt, ot + 1, none⟩ = some (.int .u8 (T.getD 1 0)) := hct 1 (by rw [HLT.out]; omega)
        have HO : Hid (opensDash T = (T.getD 0 0 == 45 && T.getD 1 0 == 45)) := by
          show opensDash T = _
          unfold opensDash
          simp [HLT.out, h2t]
        clear hct
        generalize T.getD 0 0 = y0 at *
        generalize T.getD 1 0 = y1 at *
        cases hy0 : (y0 == 45) with
        | true =>
          cases hy1 : (y1 == 45) with
          | true =>
            have hR : (R1, R2) = (l, true) := by rw [HR'.out, HO.out, hy0, hy1]; rfl
            obtain ⟨rfl, rfl⟩ := Prod.mk.inj hR
            clear hR HR' HO
            go_wp2_with fail
            go_ret
            exact ⟨by simp, HWW.out⟩
          | false =>
            have hd : opensDash T = false := by rw [HO.out, hy0, hy1]; rfl
            clear HO
            cases hab : allBlank T with
            | true =>
              have hR : (R1, R2) = (l, false) := by rw [HR'.out, hd, hab]; rfl
              obtain ⟨rfl, rfl⟩ := Prod.mk.inj hR
              have HAB : Hid (allBlank T = true) := hab
              clear hR HR' hd hab
              go_wp2_with fail
              refine (all15_n _ lt lt T w10 HLT (by omega) RTW'.out).mono ?_
              rintro e w11 ⟨rfl, rfl⟩
              rw [HAB.out]
              go_wp2_with fail
              go_ret
              exact ⟨by simp, HWW.out⟩
            | false =>
              have hR : (R1, R2) = ((-1, false) : Int × Bool) := by rw [HR'.out, hd, hab]; rfl
              obtain ⟨rfl, rfl⟩ := Prod.mk.inj hR
              have HAB : Hid (allBlank T = false) := hab
              clear hR HR' hd hab
              go_wp2_with fail
              refine (all15_n _ lt lt T w10 HLT (by omega) RTW'.out).mono ?_
              rintro e w11 ⟨rfl, rfl⟩
              rw [HAB.out]
              go_wp2_with fail
              go_ret
              exact ⟨rfl, HWW.out⟩
        | false =>
          have hd : opensDash T = false := by rw [HO.out, hy0]; rfl
          clear HO
          cases hab : allBlank T with
          | true =>
            have hR : (R1, R2) = (l, false) := by rw [HR'.out, hd, hab]; rfl
            obtain ⟨rfl, rfl⟩ := Prod.mk.inj hR
            have HAB : Hid (allBlank T = true) := hab
            clear hR HR' hd hab
            go_wp2_with fail
            refine (all15_n _ lt lt T w10 HLT (by omega) RTW'.out).mono ?_
            rintro e w11 ⟨rfl, rfl⟩
            rw [HAB.out]
            go_wp2_with fail
            go_ret
            exact ⟨by simp, HWW.out⟩
          | false =>
            have hR : (R1, R2) = ((-1, false) : Int × Bool) := by rw [HR'.out, hd, hab]; rfl
            obtain ⟨rfl, rfl⟩ := Prod.mk.inj hR
            have HAB : Hid (allBlank T = false) := hab
            clear hR HR' hd hab
            go_wp2_with fail
            refine (all15_n _ lt lt T w10 HLT (by omega) RTW'.out).mono ?_
            rintro e w11 ⟨rfl, rfl⟩
            rw [HAB.out]
            go_wp2_with fail
            go_ret
            exact ⟨rfl, HWW.out⟩
      · have hd : opensDash T = false := by
          unfold opensDash
          simp [HLT.out, h2t]
        have h2t' : lt < 2 := by omega
        cases hab : allBlank T with
        | true =>
          have hR : (R1, R2) = (l, false) := by rw [HR'.out, hd, hab]; rfl
          obtain ⟨rfl, rfl⟩ := Prod.mk.inj hR
          have HAB : Hid (allBlank T = true) := hab
          clear hR HR' hd hab
          go_wp2_with fail
          refine (all15_n _ lt lt T w10 HLT (by omega) RTW'.out).mono ?_
          rintro e w11 ⟨rfl, rfl⟩
          rw [HAB.out]
          go_wp2_with fail
          go_ret
          exact ⟨by simp, HWW.out⟩
        | false =>
          have hR : (R1, R2) = ((-1, false) : Int × Bool) := by rw [HR'.out, hd, hab]; rfl
          obtain ⟨rfl, rfl⟩ := Prod.mk.inj hR
          have HAB : Hid (allBlank T = false) := hab
          clear hR HR' hd hab
          go_wp2_with fail
          refine (all15_n _ lt lt T w10 HLT (by omega) RTW'.out).mono ?_
          rintro e w11 ⟨rfl, rfl⟩
          rw [HAB.out]
          go_wp2_with fail
          go_ret
          exact ⟨rfl, HWW.out⟩
end Go.Proofs.Qxb6605764aMods
