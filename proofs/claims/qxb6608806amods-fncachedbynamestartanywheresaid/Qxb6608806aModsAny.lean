import Derived.Test.Qxb6608806aModsWalkA
import Derived.Deep.DeepCutAuto
namespace Go.Proofs.Qxb6608806aMods
open Go.RowKit
set_option linter.unusedVariables false
set_option maxRecDepth 100000

def BytesPost1 (N : List ByteArray) (n : Nat) (s : ByteArray) (w : World) (e : Ending) (w' : World) : Prop := ∃ q : Bool, e = .returned (.bool q) ∧ (q = true → Short N n ∧ s.size ≤ 1048576) ∧ w' = w

set_option maxHeartbeats 2000000 in
theorem bytes10 (a0 : Option Addr) (n c0 : Nat) (N : List ByteArray) (s : ByteArray) (cut : Int) (w : World) (r0 : Hid (Strs w a0 n N)) (hs : s.size ≤ maxLen) :
    Calls Trym.prog 10 #[.slice a0 n c0, .string s, .int .i64 cut] w (BytesPost1 N n s w) := by
  have m0 := r0.out.max
  unfold maxLen at m0 hs
  have NO : Hid (∀ e w', (∃ q : Bool, q = false ∧ e = .returned (.bool q) ∧ w' = w) → BytesPost1 N n s w e w') := fun e w' ⟨q, h1, h2, h3⟩ => ⟨q, h2, (fun h => by rw [h1] at h; cases h), h3⟩
  by_cases hn : n ≤ 1048576
  · go_enter Trym.func10, Trym.ntmps10
    go_wp2_with fail
    go_loop [7, 8] (fun t i => ∃ (k T : Nat), k ≤ n ∧ T ≤ 1048576 ∧ i = .int .i64 k ∧ t = .int .i64 T ∧ Hid (∀ j, j < k → (nm N j).size ≤ 1048576)) (fun _ i => n - (intOf i).toNat)
    case atStart => exact ⟨0, n, Nat.zero_le _, hn, rfl, rfl, fun j hj => absurd hj (Nat.not_lt_zero _)⟩
    case round =>
      obtain ⟨k, T, hk, hT, rfl, rfl, A⟩ := hrel
      by_cases hlt : k < n
      · obtain ⟨b, o, rfl, R⟩ := r0.out.row (by omega)
        have hcx := R.cell k hlt
        have hsx := R.sz k hlt
        unfold maxLen at hsx
        clear R
        obtain ⟨x, hx⟩ : ∃ x, x = nm N k := ⟨_, rfl⟩
        rw [← hx] at hcx hsx
        have HX : Hid (x = nm N k) := hx
        clear hx
        by_cases h1 : 1048576 < x.size
        · go_wp2
          go_ret
          exact NO.out _ _ ⟨false, rfl, rfl, rfl⟩
        · by_cases h2 : 1048576 < T + x.size
          · go_wp2
            go_ret
            exact NO.out _ _ ⟨false, rfl, rfl, rfl⟩
          · go_wp2
            go_round
            case rel =>
              refine ⟨k + 1, T + x.size, by omega, by omega, by go_num, by go_num, fun j hj => ?_⟩
              by_cases e : j = k
              · subst e; rw [← HX.out]; omega
              · exact A.out j (by omega)
            case measure => simp [intOf]; omega
      · obtain rfl : k = n := by omega
        by_cases h1 : 1048576 < s.size
        · go_wp2_with fail
          go_ret
          exact NO.out _ _ ⟨false, rfl, rfl, rfl⟩
        · by_cases h2 : 1048576 < T + s.size
          · go_wp2_with fail
            go_ret
            exact NO.out _ _ ⟨false, rfl, rfl, rfl⟩
          · go_wp2_with fail
            go_ret
            exact ⟨true, rfl, fun _ => ⟨⟨hn, A.out⟩, by omega⟩, rfl⟩
  · go_enter Trym.func10, Trym.ntmps10
    go_wp2_with fail
    go_ret
    exact NO.out _ _ ⟨false, rfl, rfl, rfl⟩

theorem neq_self (X : Option Addr) (w : World) : (binOp .neq 40 (.pointer X) (.pointer X)).run Trym.prog w = .ok (.bool false) w := by
  cases X with
  | some a => exact neq_same a w
  | none => kernel_rfl

/-- The entry of that name at place i, or none. -/
def ptrAt (G n : Nat) (N : List ByteArray) (q : ByteArray) (i : Nat) : Option Addr := if i < n ∧ same (nm N i) q = true then some ⟨G, i * 44, none⟩ else none

theorem ptrAt_yes {G n i : Nat} {N : List ByteArray} {q : ByteArray} (h : i < n) (h2 : same (nm N i) q = true) : ptrAt G n N q i = some ⟨G, i * 44, none⟩ := if_pos ⟨h, h2⟩
theorem ptrAt_no {G n i : Nat} {N : List ByteArray} {q : ByteArray} (h : ¬ (i < n ∧ same (nm N i) q = true)) : ptrAt G n N q i = none := if_neg h

set_option maxHeartbeats 4000000 in
theorem any_main (a0 : Option Addr) (n c0 : Nat) (N : List ByteArray) (q : ByteArray) (cut : Int) (w : World) (r0 : Hid (Strs w a0 n N)) (hqs : q.size ≤ maxLen) :
    Calls Trym.prog 4 #[.slice a0 n c0, .string q, .int .i64 cut] w (YesPost w) := by
  have HB : Hid (Calls Trym.prog 10 #[.slice a0 n c0, .string q, .int .i64 cut] w (BytesPost1 N n q w)) := bytes10 a0 n c0 N q cut w r0 hqs
  clear hqs
  go_enter Trym.func4, Trym.ntmps4
  go_wp2_with fail
  refine HB.out.mono ?_
  rintro e w1 ⟨ok, rfl, hq, hw1⟩
  rw [hw1]
  clear hw1 w1 HB
  cases ok with
  | false =>
    clear hq
    go_wp2_with fail
    go_ret
    exact ⟨rfl, Below.refl _ _⟩
  | true =>
  obtain ⟨hsN, hsq⟩ := hq rfl
  have hn : n ≤ 1048576 := hsN.1
  have HSZ : Hid (∀ i, i < n → (nm N i).size ≤ 1048576) := hsN.2
  clear hq hsN
  go_wp2_with fail
  go_loop [7, 8] (fun t i => ∃ (k T : Nat), k ≤ n ∧ T ≤ 1048576 ∧ i = .int .i64 k ∧ t = .int .i64 T) (fun _ i => n - (intOf i).toNat)
  case atStart => exact ⟨0, 0, Nat.zero_le _, by omega, rfl, rfl⟩
  case round =>
    obtain ⟨k, T, hk, hT, rfl, rfl⟩ := hrel
    by_cases hlt : k < n
    · obtain ⟨b, o, rfl, R⟩ := r0.out.row (by omega)
      have hcx := R.cell k hlt
      have hsx := HSZ.out k hlt
      clear R
      generalize nm N k = x at *
      by_cases h2 : 1048576 < T + (16 + x.size)
      · go_wp2
        go_ret
        exact ⟨rfl, Below.refl _ _⟩
      · go_wp2
        go_round
        case rel => exact ⟨k + 1, T + (16 + x.size), by omega, by omega, by go_num, by go_num⟩
        case measure => simp [intOf]; omega
    · obtain rfl : k = n := by omega
      clear HSZ
      by_cases hTq : 1048576 < T + q.size
      · go_wp2_with fail
        go_ret
        exact ⟨rfl, Below.refl _ _⟩
      by_cases hc1 : cut < 0
      · go_wp2_with fail
        go_ret
        exact ⟨rfl, Below.refl _ _⟩
      by_cases hc2 : (k : Int) < cut
      · have d1 : decide (cut < 0) = false := decide_eq_false hc1
        go_wp2_with fail
        go_ret
        exact ⟨rfl, Below.refl _ _⟩
      obtain ⟨cn, rfl⟩ : ∃ cn : Nat, cut = cn := ⟨cut.toNat, by omega⟩
      have hcn : cn ≤ k := by omega
      have d1 : decide ((cn : Int) < 0) = false := decide_eq_false hc1
      have d2 : decide ((k : Int) < (cn : Int)) = false := decide_eq_false hc2
      go_wp2_with fail
      refine (rises6 a0 k c0 N w (by omega) r0.out).mono ?_
      rintro e w1 ⟨ok, rfl, hq, q1, rfl⟩
      clear hc1 hc2 hlt hTq d1 d2 hT hsq
      cases ok with
      | false =>
        go_wp2_with fail
        go_ret
        exact ⟨rfl, ⟨rfl, rfl, rfl, Nat.le_refl _, fun _ _ => rfl⟩⟩
      | true =>
      have HSN : Hid (Rises N) := hq rfl
      clear hq
      have BW : Hid (Below w.heap.size w (w.drewN q1)) := ⟨rfl, rfl, rfl, Nat.le_refl _, fun _ _ => rfl⟩
      have S0 : Hid (Strs (w.drewN q1) a0 k N) := r0.out.drewN _
      generalize w.drewN q1 = W at *
      obtain ⟨i0, hi, hz0, hz1, hz2⟩ := info_parts info37
      go_wp2_with (first | (at_make; refine wpList_make_own _ rfl _ _ 25 rfl W.heap.size 37 i0 (.agg (entC ByteArray.empty).toArray) 44 Trym.underlying25 hi hz0 hz1 _ _ _ k rfl rfl (by omega) ?b1 ?b2 ?b3 ?_))
      case b1 => rw [hz2]; omega
      case b2 => unfold maxLen; omega
      case b3 => exact Nat.le_refl _
      intro W1 hown hg
      have HG1 : Hid (Below W.heap.size W W1) := (Below.refl _ _).grown hg (Nat.le_refl _) (by intro k hk; cases hk)
      have HO1 : Hid (W1.ownsRow W.heap.size 37 44 (.slice (some ⟨W.heap.size, 0, none⟩) 0 k) 0 []) := hown
      clear hown hg
      obtain ⟨G, hG⟩ : ∃ G, G = W.heap.size := ⟨_, rfl⟩
      have HGE : Hid (G = W.heap.size) := hG
      rw [← hG] at HG1 HO1 ⊢
      clear hG
      go_wp2_with fail
      go_loopw [9, 10] (fun v i wr => ∃ t : Nat, t ≤ k ∧ i = .int .i64 t ∧ v = .slice (some ⟨G, 0, none⟩) t k ∧ wr.ownsRow G 37 44 (.slice (some ⟨G, 0, none⟩) t k) t (flat N t) ∧ Below G W wr) (fun _ i _ => k - (intOf i).toNat)
      case atStart => exact ⟨0, Nat.zero_le _, rfl, rfl, HO1.out, HG1.out⟩
      case round =>
        clear HO1 HG1
        obtain ⟨t, ht, rfl, rfl, hown, hbe⟩ := hrel
        have HO : Hid (wr.ownsRow G 37 44 (.slice (some ⟨G, 0, none⟩) t k) t (flat N t)) := hown
        have HBE : Hid (Below G W wr) := hbe
        clear hown hbe
        by_cases hlt : t < k
        · obtain ⟨b, o, rfl, R⟩ := S0.out.row (by omega)
          have hcx : wr.cell? ⟨b, o + t, none⟩ = some (.string (nm N t)) := by
            rw [HBE.out.cell (p := ⟨b, o + t, none⟩) (by rw [HGE.out]; exact R.blk)]; exact R.cell t hlt
          have HFS : Hid (flat N (t + 1) = flat N t ++ entC (nm N t)) := rfl
          clear R
          obtain ⟨x, hx⟩ : ∃ x, x = nm N t := ⟨_, rfl⟩
          rw [← hx] at hcx HFS
          clear hx
          go_wp2_with fail
          refine (named7 x wr).mono ?_
          rintro e w1 ⟨rfl, hb1⟩
          have HG1 : Hid (G < wr.heap.size) := owns_lt HO.out (by omega)
          have HO1 : Hid (w1.ownsRow G 37 44 (.slice (some ⟨G, 0, none⟩) t k) t (flat N t)) := owns_below HO.out hb1 HG1.out
          have HB1 : Hid (Below G W w1) := HBE.out.trans (hb1.mono (Nat.le_of_lt HG1.out))
          have HS1 : Hid (wr.heap.size ≤ w1.heap.size) := hb1.size
          clear hb1
          go_wp2_with (first | (at_builtin; refine wpList_append_fits _ rfl (.tmp 65) (.tmp 71) 25 rfl G 37 i0 44 Trym.underlying25 hi hz1 G t k (flat N t) rfl (owns_below HO1.out (by assumption) (Nat.lt_of_lt_of_le HG1.out HS1.out)) ⟨w1.heap.size, 0, none⟩ 1 1 (entC x) rfl rfl (by assumption) (entC_one x) (by omega) ?_) | (refine wpList_build_ent rfl _ rfl x rfl ?_; intro w2 hs2 hb2 hc2))
          intro w3 hown3 hg3
          have HO3 : Hid (w3.ownsRow G 37 44 (.slice (some ⟨G, 0, none⟩) (t + 1) k) (t + 1) (flat N (t + 1))) := by rw [HFS.out]; exact hown3
          have HB3 : Hid (Below G W w3) := by
            have l1 := HG1.out
            have l2 := HS1.out
            have l3 := hb2.size
            exact (HB1.out.trans (hb2.mono (by omega))).grown hg3 (by omega) (by intro k hk; cases hk; exact Nat.le_refl _)
          clear hown3 hg3 hs2 hb2 hc2 HO1 HB1 HS1 HG1
          go_wp2_with fail
          go_roundw
          case rel => exact ⟨t + 1, by omega, by go_num, rfl, HO3.out, HB3.out⟩
          case measure => simp [intOf]; omega
        · obtain rfl : t = k := by omega
          have HEN : Hid (EntAt wr G t N) := ent_of_owns HO.out
          have HGL : Hid (G < wr.heap.size) := owns_lt HO.out (Nat.le_refl _)
          have HST : Hid (St w G t N wr) := ⟨HEN.out, BW.out.trans (HBE.out.mono (by rw [HGE.out]; exact BW.out.size)), by rw [HGE.out]; exact BW.out.size, HGL.out⟩
          have SW : Hid (Strs wr a0 t N) := r0.out.below HST.out.below
          clear HO HBE S0 BW HGE hi hz0 hz1 hz2 hlt HEN HGL r0
          obtain ⟨V, hV⟩ : ∃ V, V = wr := ⟨_, rfl⟩
          rw [← hV] at HST SW ⊢
          clear hV
          go_wp2_with fail
          refine (low8 a0 t c0 N q V (by omega) SW.out HSN).mono ?_
          rintro e w1 ⟨l, rfl, hlow, hw1⟩
          rw [hw1]
          clear hw1 w1
          have HLW : Hid (Lower N q t l) := hlow
          have hlt2 : l ≤ t := hlow.le
          clear hlow
          obtain ⟨st, hst⟩ : ∃ st, st = if l < cn then cn else l := ⟨_, rfl⟩
          have hst1 : l ≤ st := by rw [hst]; split <;> omega
          have hst2 : cn ≤ st := by rw [hst]; split <;> omega
          have hst3 : st ≤ t := by rw [hst]; split <;> omega
          have HSE : Hid (st = if l < cn then cn else l) := hst
          clear hst
          go_upto_if 79 with fail
          go_cut [12] (fun v wc => v = .int .i64 st ∧ wc = V)
          case first =>
            by_cases h : l < cn
            · have HE : Hid (st = cn) := by show st = cn; rw [HSE.out, if_pos h]
              go_wp2
              go_meet
              case rel => exact ⟨by rw [HE.out], rfl⟩
            · have HE : Hid (st = l) := by show st = l; rw [HSE.out, if_neg h]
              go_wp2
              go_meet
              case rel => exact ⟨by rw [HE.out], rfl⟩
          case rest =>
          obtain ⟨rfl, hwc⟩ := hcut
          rw [hwc]
          clear hwc wc
          obtain ⟨bw, hbw⟩ : ∃ bw : Bool, bw = decide (l < t ∧ same (nm N l) q = true) := ⟨_, rfl⟩
          have Hbw : Hid (bw = decide (l < t ∧ same (nm N l) q = true)) := hbw
          clear hbw
          go_upto_region 26 with fail
          go_cut [92] (fun v wc => v = .bool bw ∧ wc = V)
          case first =>
            by_cases hll : l < t
            · obtain ⟨b0, o0, rfl, R0⟩ := SW.out.row (by omega)
              have hcl : V.cell? ⟨b0, o0 + l, none⟩ = some (.string (nm N l)) := R0.cell l hll
              have HE : Hid (bw = ((nm N l).toList == q.toList)) := by
                show bw = _
                rw [Hbw.out]
                unfold same
                cases ((nm N l).toList == q.toList) <;> simp [hll]
              clear R0 SW
              generalize nm N l = y at *
              have hz1 : (0 : Int) ≤ (l : Int) := by omega
              have hz2 : (l : Int) < (t : Int) := by omega
              go_wp2
              go_meet
              case rel => exact ⟨by rw [HE.out], rfl⟩
            · have HE : Hid (bw = false) := by
                show bw = false
                rw [Hbw.out]
                exact decide_eq_false (fun h => hll h.1)
              have hll' : t ≤ l := by omega
              go_wp2
              go_meet
              case rel => exact ⟨by rw [HE.out], rfl⟩
          case rest =>
          obtain ⟨rfl, hwc⟩ := hcut
          rw [hwc]
          clear hwc wc
          obtain ⟨X1, hX1⟩ : ∃ X, X = ptrAt G t N q l := ⟨_, rfl⟩
          have HX1 : Hid (X1 = ptrAt G t N q l) := hX1
          clear hX1
          go_upto_if 92 with fail
          go_cut [13] (fun v wc => v = .pointer X1 ∧ wc = V)
          case first =>
            cases bw with
            | true =>
              have hyes : l < t ∧ same (nm N l) q = true := of_decide_eq_true Hbw.out.symm
              have HE : Hid (X1 = some ⟨G, l * 44, none⟩) := by show X1 = _; rw [HX1.out, ptrAt_yes hyes.1 hyes.2]
              have hz1 : (0 : Int) ≤ (l : Int) := by omega
              have hz2 : (l : Int) < (t : Int) := by have := hyes.1; omega
              clear hyes
              go_wp2
              go_meet
              case rel => exact ⟨by rw [HE.out], rfl⟩
            | false =>
              have hno : ¬ (l < t ∧ same (nm N l) q = true) := of_decide_eq_false Hbw.out.symm
              have HE : Hid (X1 = none) := by show X1 = _; rw [HX1.out, ptrAt_no hno]
              clear hno
              go_wp2
              go_meet
              case rel => exact ⟨by rw [HE.out], rfl⟩
          case rest =>
          obtain ⟨rfl, hwc⟩ := hcut
          rw [hwc]
          clear hwc wc Hbw
          obtain ⟨bp, hbp⟩ : ∃ bp : Bool, bp = decide (st < t ∧ same (nm N st) q = true) := ⟨_, rfl⟩
          have Hbp : Hid (bp = decide (st < t ∧ same (nm N st) q = true)) := hbp
          clear hbp
          go_upto_region 29 with fail
          go_cut [107] (fun v wc => v = .bool bp ∧ wc = V)
          case first =>
            by_cases hll : st < t
            · obtain ⟨b0, o0, rfl, R0⟩ := SW.out.row (by omega)
              have hcl : V.cell? ⟨b0, o0 + st, none⟩ = some (.string (nm N st)) := R0.cell st hll
              have HE : Hid (bp = ((nm N st).toList == q.toList)) := by
                show bp = _
                rw [Hbp.out]
                unfold same
                cases ((nm N st).toList == q.toList) <;> simp [hll]
              clear R0 SW
              generalize nm N st = y at *
              have hz1 : (0 : Int) ≤ (st : Int) := by omega
              have hz2 : (st : Int) < (t : Int) := by omega
              go_wp2
              go_meet
              case rel => exact ⟨by rw [HE.out], rfl⟩
            · have HE : Hid (bp = false) := by
                show bp = false
                rw [Hbp.out]
                exact decide_eq_false (fun h => hll h.1)
              have hll' : t ≤ st := by omega
              go_wp2
              go_meet
              case rel => exact ⟨by rw [HE.out], rfl⟩
          case rest =>
          obtain ⟨rfl, hwc⟩ := hcut
          rw [hwc]
          clear hwc wc
          obtain ⟨X2, hX2⟩ : ∃ X, X = ptrAt G t N q st := ⟨_, rfl⟩
          have HX2 : Hid (X2 = ptrAt G t N q st) := hX2
          clear hX2
          go_upto_if 107 with fail
          go_cut [14] (fun v wc => v = .pointer X2 ∧ wc = V)
          case first =>
            cases bp with
            | true =>
              have hyes : st < t ∧ same (nm N st) q = true := of_decide_eq_true Hbp.out.symm
              have HE : Hid (X2 = some ⟨G, st * 44, none⟩) := by show X2 = _; rw [HX2.out, ptrAt_yes hyes.1 hyes.2]
              have hz1 : (0 : Int) ≤ (st : Int) := by omega
              have hz2 : (st : Int) < (t : Int) := by have := hyes.1; omega
              clear hyes
              go_wp2
              go_meet
              case rel => exact ⟨by rw [HE.out], rfl⟩
            | false =>
              have hno : ¬ (st < t ∧ same (nm N st) q = true) := of_decide_eq_false Hbp.out.symm
              have HE : Hid (X2 = none) := by show X2 = _; rw [HX2.out, ptrAt_no hno]
              clear hno
              go_wp2
              go_meet
              case rel => exact ⟨by rw [HE.out], rfl⟩
          case rest =>
          obtain ⟨rfl, hwc⟩ := hcut
          rw [hwc]
          clear hwc wc Hbp
          clear SW
          go_upto_region 32 with fail
          have HW1 : Hid (Was (V.alloc (.cells #[.slice (some ⟨G, 0, none⟩) t t] 25)) V.heap.size G t 0 (t - 0) (some ⟨G, 0, none⟩)) := Was.made V G t 0 t (some ⟨G, 0, none⟩) (fun _ => by simp)
          have HS1 : Hid (St w G t N (V.alloc (.cells #[.slice (some ⟨G, 0, none⟩) t t] 25))) := HST.out.alloc _
          have HPN : Hid (w.heap.size ≤ V.heap.size ∧ G < V.heap.size) := ⟨HST.out.below.size, HST.out.hi⟩
          have esz : (V.alloc (.cells #[.slice (some ⟨G, 0, none⟩) t t] 25)).heap.size = V.heap.size + 1 := by simp
          have HSZ1 : Hid ((V.alloc (.cells #[.slice (some ⟨G, 0, none⟩) t t] 25)).heap.size = V.heap.size + 1) := esz
          clear esz HST
          go_cut [16] (fun v wc => ∃ A, v = .pointer (some ⟨V.heap.size + 1, 0, none⟩) ∧ Was wc V.heap.size G t 0 (t - 0) (some ⟨G, 0, none⟩) ∧ Was wc (V.heap.size + 1) G t cn (t - cn) A ∧ St w G t N wc)
          case first =>
            by_cases hct : cn = t
            · have hct0 : t - cn = 0 := by omega
              have HWA : Hid (∀ A, Was ((V.alloc (.cells #[.slice (some ⟨G, 0, none⟩) t t] 25)).alloc (.cells #[.slice A 0 0] 25)) (V.heap.size + 1) G t cn (t - cn) A) := by
                intro A
                have := Was.made (V.alloc (.cells #[.slice (some ⟨G, 0, none⟩) t t] 25)) G t cn 0 A (fun h => absurd h (Nat.lt_irrefl _))
                rw [HSZ1.out] at this
                rw [hct0]
                exact this
              subst hct
              clear hct0
              go_wp2
              go_meet
              case rel => exact ⟨_, rfl, HW1.out.alloc _, HWA.out _, HS1.out.alloc _⟩
            · have HWA : Hid (Was ((V.alloc (.cells #[.slice (some ⟨G, 0, none⟩) t t] 25)).alloc (.cells #[.slice (some ⟨G, cn * 44, none⟩) (t - cn) (t - cn)] 25)) (V.heap.size + 1) G t cn (t - cn) (some ⟨G, cn * 44, none⟩)) := by
                have := Was.made (V.alloc (.cells #[.slice (some ⟨G, 0, none⟩) t t] 25)) G t cn (t - cn) (some ⟨G, cn * 44, none⟩) (fun _ => rfl)
                rw [HSZ1.out] at this
                exact this
              have hct2 : ¬ t = cn := fun e => hct e.symm
              go_wp2
              go_meet
              case rel => exact ⟨_, rfl, HW1.out.alloc _, HWA.out, HS1.out.alloc _⟩
          case rest =>
          obtain ⟨A, rfl, hwa, hwb, hst⟩ := hcut
          have HWA : Hid (Was wc V.heap.size G t 0 (t - 0) (some ⟨G, 0, none⟩)) := hwa
          have HWB : Hid (Was wc (V.heap.size + 1) G t cn (t - cn) A) := hwb
          have HSC : Hid (St w G t N wc) := hst
          clear hwa hwb hst HW1 HS1 HSZ1
          generalize V.heap.size = p at *
          have HF0 : Hid (∀ i, 0 ≤ i → i < l → lt (nm N i) q = true) := fun i _ h => HLW.out.lo i h
          have HF2 : Hid (l < t → lt (nm N l) q = false) := fun h => HLW.out.hi l (Nat.le_refl _) h
          have HF3 : Hid (∀ i, cn ≤ i → i < st → lt (nm N i) q = true) := fun i h1 h2 => HLW.out.lo i (by
            have := HSE.out
            by_cases h : l < cn
            · rw [if_pos h] at this; omega
            · rw [if_neg h] at this; omega)
          have HF4 : Hid (st < t → lt (nm N st) q = false) := fun h => HLW.out.hi st hst1 h
          go_wp2_with fail
          refine (find9 p G t 0 l N q (some ⟨G, 0, none⟩) wc (by have := HPN.out.2; omega) hn HSC.out.ent HWA (Nat.zero_le _) hlt2 HF0 HF2).mono ?_
          rintro e w2 ⟨rfl, ⟨A2, hw2⟩, hf2⟩
          have HS2 : Hid (St w G t N w2) := HSC.out.frm hf2 HPN.out.1 (by have := HPN.out.2; omega)
          have HWB2 : Hid (Was w2 (p + 1) G t cn (t - cn) A) := HWB.out.frm hf2 (fun e => by omega)
          have HWP2 : Hid (Was w2 p G t l (t - l) A2) := hw2
          clear hw2 hf2 HSC HWA HWB
          rw [show (if l < t ∧ same (nm N l) q = true then some (⟨G, l * 44, none⟩ : Addr) else none) = X1 from HX1.out.symm]
          go_wp2_with fail
          refine (find9 (p + 1) G t cn st N q A w2 (by have := HPN.out.2; omega) hn HS2.out.ent HWB2 hst2 hst3 HF3 HF4).mono ?_
          rintro e w3 ⟨rfl, ⟨A3, hw3⟩, hf3⟩
          have HS3 : Hid (St w G t N w3) := HS2.out.frm hf3 (by have := HPN.out.1; omega) (by have := HPN.out.2; omega)
          have HWP3 : Hid (Was w3 p G t l (t - l) A2) := HWP2.out.frm hf3 (fun e => by omega)
          have HWQ3 : Hid (Was w3 (p + 1) G t st (t - st) A3) := hw3
          clear hw3 hf3 HS2 HWB2 HWP2
          rw [show (if st < t ∧ same (nm N st) q = true then some (⟨G, st * 44, none⟩ : Addr) else none) = X2 from HX2.out.symm]
          have hpe := fun X w => neq_self X w
          have c1 := HWP3.out.cell
          have c2 := HWQ3.out.cell
          by_cases hl : l < t
          · have hA2 := HWP3.out.at_ (by omega)
            subst hA2
            obtain ⟨m1, hm1⟩ : ∃ m1, m1 = t - l := ⟨_, rfl⟩
            rw [← hm1] at c1
            have g1 : 0 < m1 := by omega
            have g2 : m1 ≤ 1048576 := by omega
            have gne : ((m1 : Int) != (t : Int) - (l : Int)) = false := by rw [bne_eq_false_iff_eq]; omega
            have gz1 : (0 : Int) ≤ (l : Int) := by omega
            have gz2 : (l : Int) < (t : Int) := by omega
            clear hm1
            by_cases hs : st < t
            · have hA3 := HWQ3.out.at_ (by omega)
              subst hA3
              obtain ⟨m2, hm2⟩ : ∃ m2, m2 = t - st := ⟨_, rfl⟩
              rw [← hm2] at c2
              have k1 : 0 < m2 := by omega
              have k2 : m2 ≤ 1048576 := by omega
              have kne : ((m2 : Int) != (t : Int) - (st : Int)) = false := by rw [bne_eq_false_iff_eq]; omega
              have kz1 : (0 : Int) ≤ (st : Int) := by omega
              have kz2 : (st : Int) < (t : Int) := by omega
              clear hm2
              go_wp2
              go_quiet (fail)
              go_wp2
              go_quiet (fail)
              go_wp2
              go_ret
              exact ⟨rfl, ((HS3.out.drewN _).drewN _).below⟩
            · have hz : t - st = 0 := by omega
              rw [hz] at c2
              have kne : ((0 : Int) != (t : Int) - (st : Int)) = false := by rw [bne_eq_false_iff_eq]; omega
              clear hz
              go_wp2
              go_quiet (fail)
              go_wp2
              go_quiet (fail)
              go_wp2
              go_ret
              exact ⟨rfl, ((HS3.out.drewN _).drewN _).below⟩
          · have hz : t - l = 0 := by omega
            rw [hz] at c1
            have hz2 : t - st = 0 := by omega
            rw [hz2] at c2
            have gne : ((0 : Int) != (t : Int) - (l : Int)) = false := by rw [bne_eq_false_iff_eq]; omega
            have kne : ((0 : Int) != (t : Int) - (st : Int)) = false := by rw [bne_eq_false_iff_eq]; omega
            clear hz hz2
            go_wp2
            go_quiet (fail)
            go_wp2
            go_quiet (fail)
            go_wp2
            go_ret
            exact ⟨rfl, ((HS3.out.drewN _).drewN _).below⟩
end Go.Proofs.Qxb6608806aMods
