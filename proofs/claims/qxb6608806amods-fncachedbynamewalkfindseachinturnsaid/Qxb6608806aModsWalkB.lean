import Derived.Test.Qxb6608806aModsWalkA
namespace Go.Proofs.Qxb6608806aMods
open Go.RowKit
set_option linter.unusedVariables false
set_option maxRecDepth 100000

set_option maxHeartbeats 1000000 in
theorem walk_main (a0 a1 : Option Addr) (n c0 m c1 : Nat) (N M : List ByteArray) (w : World) (r0 : Hid (Strs w a0 n N)) (r1 : Hid (Strs w a1 m M)) :
    Calls Trym.prog 3 #[.slice a0 n c0, .slice a1 m c1] w (YesPost w) := by
  go_enter Trym.func3, Trym.ntmps3
  go_wp2_with fail
  refine (bytes5 a0 a1 n c0 m c1 N M w r0 r1).mono ?_
  rintro e w1 ⟨q, rfl, hq, hw1⟩
  rw [hw1]
  clear hw1 w1
  cases q with
  | false =>
    clear hq
    go_wp2_with fail
    go_ret
    exact ⟨rfl, Below.refl _ _⟩
  | true =>
  obtain ⟨hsN, hsM⟩ := hq rfl
  have hn : n ≤ 1048576 := hsN.1
  have hm : m ≤ 1048576 := hsM.1
  have HSN : Hid (∀ i, i < n → (nm N i).size ≤ 1048576) := hsN.2
  have HSM : Hid (∀ i, i < m → (nm M i).size ≤ 1048576) := hsM.2
  clear hq hsN hsM
  go_wp2_with fail
  go_loop [5, 6] (fun t i => ∃ (k T : Nat), k ≤ n ∧ T ≤ 1048576 ∧ i = .int .i64 k ∧ t = .int .i64 T) (fun _ i => n - (intOf i).toNat)
  case atStart => exact ⟨0, 0, Nat.zero_le _, by omega, rfl, rfl⟩
  case round =>
    obtain ⟨k, T, hk, hT, rfl, rfl⟩ := hrel
    by_cases hlt : k < n
    · obtain ⟨b, o, rfl, R⟩ := r0.out.row (by omega)
      have hcx := R.cell k hlt
      have hsx := HSN.out k hlt
      clear R
      generalize nm N k = x at *
      by_cases h2 : 1048576 < T + (16 + x.size)
      · go_wp2
        go_ret
        exact ⟨rfl, Below.refl _ _⟩
      · go_wp2
        go_round
        case rel => exact ⟨k + 1, T + (16 + x.size), by omega, by omega, by go_num, by go_num⟩
        case measure => simp [intOf]; omega
    · obtain rfl : k = n := by omega
      go_wp2_with fail
      go_loop [5, 7] (fun t i => ∃ (j T : Nat), j ≤ m ∧ T ≤ 1048576 ∧ i = .int .i64 j ∧ t = .int .i64 T) (fun _ i => m - (intOf i).toNat)
      case atStart => exact ⟨0, T, Nat.zero_le _, hT, rfl, rfl⟩
      case round =>
        clear hT hlt
        obtain ⟨j, T2, hj, hT2, rfl, rfl⟩ := hrel
        by_cases hlt2 : j < m
        · obtain ⟨b, o, rfl, R⟩ := r1.out.row (by omega)
          have hcx := R.cell j hlt2
          have hsx := HSM.out j hlt2
          clear R
          generalize nm M j = x at *
          by_cases h2 : 1048576 < T2 + (16 + x.size)
          · go_wp2
            go_ret
            exact ⟨rfl, Below.refl _ _⟩
          · go_wp2
            go_round
            case rel => exact ⟨j + 1, T2 + (16 + x.size), by omega, by omega, by go_num, by go_num⟩
            case measure => simp [intOf]; omega
        · obtain rfl : j = m := by omega
          clear hT2 hlt2 HSN HSM
          go_wp2_with fail
          refine (rises6 a0 k c0 N w (by omega) r0.out).mono ?_
          rintro e w1 ⟨q, rfl, hq, q1, rfl⟩
          cases q with
          | false =>
            go_wp2_with fail
            go_ret
            exact ⟨rfl, ⟨rfl, rfl, rfl, Nat.le_refl _, fun _ _ => rfl⟩⟩
          | true =>
          have HSN : Hid (Rises N) := hq rfl
          clear hq
          go_wp2_with fail
          refine (rises6 a1 j c1 M _ (by omega) (by exact r1.out.drewN _)).mono ?_
          rintro e w1 ⟨q, rfl, hq, q2, rfl⟩
          cases q with
          | false =>
            go_wp2_with fail
            go_ret
            exact ⟨rfl, ⟨rfl, rfl, rfl, Nat.le_refl _, fun _ _ => rfl⟩⟩
          | true =>
          have HSM : Hid (Rises M) := hq rfl
          clear hq
          have BW : Hid (Below w.heap.size w ((w.drewN q1).drewN q2)) := ⟨rfl, rfl, rfl, Nat.le_refl _, fun _ _ => rfl⟩
          have S0 : Hid (Strs ((w.drewN q1).drewN q2) a0 k N) := (r0.out.drewN _).drewN _
          have S1 : Hid (Strs ((w.drewN q1).drewN q2) a1 j M) := (r1.out.drewN _).drewN _
          generalize (w.drewN q1).drewN q2 = W at *
          obtain ⟨i0, hi, hz0, hz1, hz2⟩ := info_parts info37
          go_wp2_with (first | (at_make; refine wpList_make_own _ rfl _ _ 25 rfl W.heap.size 37 i0 (.agg (entC ByteArray.empty).toArray) 44 Trym.underlying25 hi hz0 hz1 _ _ _ k rfl rfl (by omega) ?b1 ?b2 ?b3 ?_))
          case b1 => rw [hz2]; omega
          case b2 => unfold maxLen; omega
          case b3 => exact Nat.le_refl _
          intro W1 hown hg
          have HG1 : Hid (Below W.heap.size W W1) := (Below.refl _ _).grown hg (Nat.le_refl _) (by intro k hk; cases hk)
          have HO1 : Hid (W1.ownsRow W.heap.size 37 44 (.slice (some ⟨W.heap.size, 0, none⟩) 0 k) 0 []) := hown
          clear hown hg
          obtain ⟨G, hG⟩ : ∃ G, G = W.heap.size := ⟨_, rfl⟩
          have HGE : Hid (G = W.heap.size) := hG
          rw [← hG] at HG1 HO1 ⊢
          clear hG
          go_wp2_with fail
          go_loopw [8, 9] (fun v i wr => ∃ t : Nat, t ≤ k ∧ i = .int .i64 t ∧ v = .slice (some ⟨G, 0, none⟩) t k ∧ wr.ownsRow G 37 44 (.slice (some ⟨G, 0, none⟩) t k) t (flat N t) ∧ Below G W wr) (fun _ i _ => k - (intOf i).toNat)
          case atStart => exact ⟨0, Nat.zero_le _, rfl, rfl, HO1.out, HG1.out⟩
          case round =>
            clear HO1 HG1
            obtain ⟨t, ht, rfl, rfl, hown, hbe⟩ := hrel
            have HO : Hid (wr.ownsRow G 37 44 (.slice (some ⟨G, 0, none⟩) t k) t (flat N t)) := hown
            have HBE : Hid (Below G W wr) := hbe
            clear hown hbe
            by_cases hlt : t < k
            · obtain ⟨b, o, rfl, R⟩ := S0.out.row (by omega)
              have hcx : wr.cell? ⟨b, o + t, none⟩ = some (.string (nm N t)) := by
                rw [HBE.out.cell (p := ⟨b, o + t, none⟩) (by rw [HGE.out]; exact R.blk)]; exact R.cell t hlt
              have HFS : Hid (flat N (t + 1) = flat N t ++ entC (nm N t)) := rfl
              clear R
              obtain ⟨x, hx⟩ : ∃ x, x = nm N t := ⟨_, rfl⟩
              rw [← hx] at hcx HFS
              clear hx
              go_wp2_with fail
              refine (named7 x wr).mono ?_
              rintro e w1 ⟨rfl, hb1⟩
              have HG1 : Hid (G < wr.heap.size) := owns_lt HO.out (by omega)
              have HO1 : Hid (w1.ownsRow G 37 44 (.slice (some ⟨G, 0, none⟩) t k) t (flat N t)) := owns_below HO.out hb1 HG1.out
              have HB1 : Hid (Below G W w1) := HBE.out.trans (hb1.mono (Nat.le_of_lt HG1.out))
              have HS1 : Hid (wr.heap.size ≤ w1.heap.size) := hb1.size
              clear hb1
              go_wp2_with (first | (at_builtin; refine wpList_append_fits _ rfl (.tmp 71) (.tmp 77) 25 rfl G 37 i0 44 Trym.underlying25 hi hz1 G t k (flat N t) rfl (owns_below HO1.out (by assumption) (Nat.lt_of_lt_of_le HG1.out HS1.out)) ⟨w1.heap.size, 0, none⟩ 1 1 (entC x) rfl rfl (by assumption) (entC_one x) (by omega) ?_) | (refine wpList_build_ent rfl _ rfl x rfl ?_; intro w2 hs2 hb2 hc2))
              intro w3 hown3 hg3
              have HO3 : Hid (w3.ownsRow G 37 44 (.slice (some ⟨G, 0, none⟩) (t + 1) k) (t + 1) (flat N (t + 1))) := by rw [HFS.out]; exact hown3
              have HB3 : Hid (Below G W w3) := by
                have l1 := HG1.out
                have l2 := HS1.out
                have l3 := hb2.size
                exact (HB1.out.trans (hb2.mono (by omega))).grown hg3 (by omega) (by intro k hk; cases hk; exact Nat.le_refl _)
              clear hown3 hg3 hs2 hb2 hc2 HO1 HB1 HS1 HG1
              go_wp2_with fail
              go_roundw
              case rel => exact ⟨t + 1, by omega, by go_num, rfl, HO3.out, HB3.out⟩
              case measure => simp [intOf]; omega
            · obtain rfl : t = k := by omega
              have HEN : Hid (EntAt wr G t N) := ent_of_owns HO.out
              have HGL : Hid (G < wr.heap.size) := owns_lt HO.out (Nat.le_refl _)
              have hST : St w G t N wr := ⟨HEN.out, BW.out.trans (HBE.out.mono (by rw [HGE.out]; exact BW.out.size)), by rw [HGE.out]; exact BW.out.size, HGL.out⟩
              have HST : Hid (St w G t N (wr.alloc (.cells #[.slice (some ⟨G, 0, none⟩) t t] 25))) := hST.alloc _
              have HWS : Hid (Was (wr.alloc (.cells #[.slice (some ⟨G, 0, none⟩) t t] 25)) wr.heap.size G t 0 (t - 0) (some ⟨G, 0, none⟩)) := Was.made wr G t 0 t (some ⟨G, 0, none⟩) (fun _ => by simp)
              have HPP : Hid (w.heap.size ≤ wr.heap.size ∧ wr.heap.size ≠ G) := ⟨hST.below.size, by have := HGL.out; omega⟩
              have HLM : Hid (M.length = j) := r1.out.len
              clear HO HBE S0 S1 BW HGE hi hz0 hz1 hz2 hlt hST HEN HGL
              obtain ⟨p, hp⟩ : ∃ p, p = wr.heap.size := ⟨_, rfl⟩
              rw [← hp] at HPP HWS
              have HP : Hid (p = wr.heap.size) := hp
              clear hp
              go_wp2_with fail
              rw [← HP.out]
              generalize wr.alloc (.cells #[.slice (some ⟨G, 0, none⟩) t t] 25) = V at *
              clear HP
              go_loopw [11] (fun i wx => ∃ (s k0 : Nat) (A : Option Addr), s ≤ j ∧ i = .int .i64 s ∧ k0 ≤ t ∧ Was wx p G t k0 (t - k0) A ∧ St w G t N wx ∧ Past N M k0 s j) (fun i _ => j - (intOf i).toNat)
              case atStart => exact ⟨0, 0, _, Nat.zero_le _, rfl, Nat.zero_le _, HWS.out, HST.out, fun r hr => absurd hr (Nat.not_lt_zero _)⟩
              case round =>
                clear HWS HST
                obtain ⟨s, k0, A, hs, rfl, hk0, hwas, hst, hpast⟩ := hrel
                have HWAS : Hid (Was wr p G t k0 (t - k0) A) := hwas
                have HST : Hid (St w G t N wr) := hst
                have HPA : Hid (Past N M k0 s j) := hpast
                clear hwas hst hpast
                by_cases hlt : s < j
                · have hS1 := r1.out.below HST.out.below
                  obtain ⟨b, o, rfl, R⟩ := hS1.row (by omega)
                  have hcq : wr.cell? ⟨b, o + s, none⟩ = some (.string (nm M s)) := R.cell s hlt
                  clear R hS1
                  obtain ⟨q, hq⟩ : ∃ q, q = nm M s := ⟨_, rfl⟩
                  rw [← hq] at hcq
                  have HQ : Hid (q = nm M s) := hq
                  clear hq
                  go_wp2_with fail
                  refine (low8 a0 t c0 N q wr (by omega) (r0.out.below HST.out.below) HSN).mono ?_
                  rintro e w1 ⟨l, rfl, hlow, hw1⟩
                  rw [hw1]
                  clear hw1 w1
                  have HLW : Hid (Lower N q t l) := hlow
                  have hlt2 : l ≤ t := hlow.le
                  have hkl : k0 ≤ l := past_le HPA.out hlt hk0 (HQ.out ▸ hlow)
                  have HPS : Hid (Past N M l (s + 1) j) := past_step HSM.out HLM.out hlt (HQ.out ▸ hlow)
                  have HF1 : Hid (∀ i, k0 ≤ i → i < l → lt (nm N i) q = true) := fun i _ h => hlow.lo i h
                  have HF2 : Hid (l < t → lt (nm N l) q = false) := fun h => hlow.hi l (Nat.le_refl _) h
                  have HF0 : Hid (∀ i, 0 ≤ i → i < l → lt (nm N i) q = true) := fun i _ h => hlow.lo i h
                  have HSA : Hid (St w G t N (wr.alloc (.cells #[.slice (some ⟨G, 0, none⟩) t t] 25))) := HST.out.alloc _
                  have HWA : Hid (Was (wr.alloc (.cells #[.slice (some ⟨G, 0, none⟩) t t] 25)) p G t k0 (t - k0) A) := HWAS.out.alloc _
                  have HWB : Hid (Was (wr.alloc (.cells #[.slice (some ⟨G, 0, none⟩) t t] 25)) wr.heap.size G t 0 (t - 0) (some ⟨G, 0, none⟩)) := Was.made wr G t 0 t (some ⟨G, 0, none⟩) (fun _ => by simp)
                  have HPL : Hid (p < wr.heap.size) := lt_of_cell HWAS.out.cell
                  have HP2 : Hid (w.heap.size ≤ wr.heap.size ∧ wr.heap.size ≠ G) := ⟨HST.out.below.size, by have := HST.out.hi; omega⟩
                  clear hlow HPA
                  by_cases hll : l < t
                  · have hS0 := r0.out.below HST.out.below
                    obtain ⟨b0, o0, rfl, R0⟩ := hS0.row (by omega)
                    have hcl : wr.cell? ⟨b0, o0 + l, none⟩ = some (.string (nm N l)) := R0.cell l hll
                    have HSM2 : Hid (same (nm N l) q = ((nm N l).toList == q.toList)) := rfl
                    obtain ⟨y, hy⟩ : ∃ y, y = nm N l := ⟨_, rfl⟩
                    rw [← hy] at hcl HSM2
                    have HY : Hid (y = nm N l) := hy
                    clear hy R0 hS0
                    cases hq : (y.toList == q.toList) with
                    | true =>
                      have HC : Hid (l < t ∧ same (nm N l) q = true) := ⟨hll, by rw [← HY.out, HSM2.out]; exact hq⟩
                      clear HSM2 HY
                      go_wp2_with fail
                      refine (find9 p G t k0 l N q A _ HPP.out.2 hn HSA.out.ent HWA hkl hlt2 HF1 HF2).mono ?_
                      rintro e w2 ⟨rfl, ⟨A2, hw2⟩, hf2⟩
                      rw [if_pos HC.out]
                      have HS2 : Hid (St w G t N w2) := HSA.out.frm hf2 HPP.out.1 HPP.out.2
                      have HWB2 : Hid (Was w2 wr.heap.size G t 0 (t - 0) (some ⟨G, 0, none⟩)) := HWB.out.frm hf2 (fun e => by have := HPL.out; omega)
                      have HWP2 : Hid (Was w2 p G t l (t - l) A2) := hw2
                      clear hw2 hf2 HSA HWA HWB
                      go_wp2_with fail
                      refine (find9 wr.heap.size G t 0 l N q (some ⟨G, 0, none⟩) w2 HP2.out.2 hn HS2.out.ent HWB2 (Nat.zero_le _) hlt2 HF0 HF2).mono ?_
                      rintro e w3 ⟨rfl, ⟨A3, hw3⟩, hf3⟩
                      rw [if_pos HC.out]
                      have HS3 : Hid (St w G t N w3) := HS2.out.frm hf3 HP2.out.1 HP2.out.2
                      have HWP3 : Hid (Was w3 p G t l (t - l) A2) := HWP2.out.frm hf3 (fun e => by have := HPL.out; omega)
                      have HWQ3 : Hid (Was w3 wr.heap.size G t l (t - l) A3) := hw3
                      clear hw3 hf3 HS2 HWP2 HWB2 HST HWAS
                      have hA2 := HWP3.out.at_ (by omega)
                      have hA3 := HWQ3.out.at_ (by omega)
                      subst hA2
                      subst hA3
                      have c1 := HWP3.out.cell
                      have c2 := HWQ3.out.cell
                      obtain ⟨mm, hmm⟩ : ∃ mm, mm = t - l := ⟨_, rfl⟩
                      rw [← hmm] at c1 c2
                      have hm1 : 1 ≤ mm := by omega
                      have hm2 : mm ≤ 1048576 := by omega
                      have hne : ((mm : Int) != (t : Int) - (l : Int)) = false := by rw [bne_eq_false_iff_eq]; omega
                      have hdp : decide ((0 : Int) < (mm : Int)) = true := decide_eq_true (by omega)
                      have hz1 : (0 : Int) ≤ (l : Int) := by omega
                      have hz2 : (l : Int) < (t : Int) := by omega
                      have hz3 : 0 < mm := by omega
                      clear hmm
                      have hpe := fun w => neq_same ⟨G, l * 44, none⟩ w
                      go_wp2
                      go_quiet (fail)
                      go_wp2
                      go_roundw
                      case rel => exact ⟨s + 1, l, _, by omega, by go_num, hlt2, HWP3.out.drewN _, HS3.out.drewN _, HPS.out⟩
                      case measure => simp [intOf]; omega
                    | false =>
                      have HC : Hid (¬ (l < t ∧ same (nm N l) q = true)) := fun h => by
                        have := h.2
                        rw [← HY.out, HSM2.out, hq] at this
                        cases this
                      clear HSM2 HY
                      go_wp2_with fail
                      refine (find9 p G t k0 l N q A _ HPP.out.2 hn HSA.out.ent HWA hkl hlt2 HF1 HF2).mono ?_
                      rintro e w2 ⟨rfl, ⟨A2, hw2⟩, hf2⟩
                      rw [if_neg HC.out]
                      have HS2 : Hid (St w G t N w2) := HSA.out.frm hf2 HPP.out.1 HPP.out.2
                      have HWB2 : Hid (Was w2 wr.heap.size G t 0 (t - 0) (some ⟨G, 0, none⟩)) := HWB.out.frm hf2 (fun e => by have := HPL.out; omega)
                      have HWP2 : Hid (Was w2 p G t l (t - l) A2) := hw2
                      clear hw2 hf2 HSA HWA HWB
                      go_wp2_with fail
                      refine (find9 wr.heap.size G t 0 l N q (some ⟨G, 0, none⟩) w2 HP2.out.2 hn HS2.out.ent HWB2 (Nat.zero_le _) hlt2 HF0 HF2).mono ?_
                      rintro e w3 ⟨rfl, ⟨A3, hw3⟩, hf3⟩
                      rw [if_neg HC.out]
                      have HS3 : Hid (St w G t N w3) := HS2.out.frm hf3 HP2.out.1 HP2.out.2
                      have HWP3 : Hid (Was w3 p G t l (t - l) A2) := HWP2.out.frm hf3 (fun e => by have := HPL.out; omega)
                      have HWQ3 : Hid (Was w3 wr.heap.size G t l (t - l) A3) := hw3
                      clear hw3 hf3 HS2 HWP2 HWB2 HST HWAS
                      have hA2 := HWP3.out.at_ (by omega)
                      have hA3 := HWQ3.out.at_ (by omega)
                      subst hA2
                      subst hA3
                      have c1 := HWP3.out.cell
                      have c2 := HWQ3.out.cell
                      obtain ⟨mm, hmm⟩ : ∃ mm, mm = t - l := ⟨_, rfl⟩
                      rw [← hmm] at c1 c2
                      have hm1 : 1 ≤ mm := by omega
                      have hm2 : mm ≤ 1048576 := by omega
                      have hne : ((mm : Int) != (t : Int) - (l : Int)) = false := by rw [bne_eq_false_iff_eq]; omega
                      have hdp : decide ((0 : Int) < (mm : Int)) = true := decide_eq_true (by omega)
                      have hz1 : (0 : Int) ≤ (l : Int) := by omega
                      have hz2 : (l : Int) < (t : Int) := by omega
                      have hz3 : 0 < mm := by omega
                      clear hmm
                      have hpe := fun w => neq_same ⟨G, l * 44, none⟩ w
                      go_wp2
                      go_quiet (fail)
                      go_wp2
                      go_roundw
                      case rel => exact ⟨s + 1, l, _, by omega, by go_num, hlt2, HWP3.out.drewN _, HS3.out.drewN _, HPS.out⟩
                      case measure => simp [intOf]; omega
                  · have HC : Hid (¬ (l < t ∧ same (nm N l) q = true)) := fun h => hll h.1
                    have hlt3 : l = t := by omega
                    go_wp2_with fail
                    refine (find9 p G t k0 l N q A _ HPP.out.2 hn HSA.out.ent HWA hkl hlt2 HF1 HF2).mono ?_
                    rintro e w2 ⟨rfl, ⟨A2, hw2⟩, hf2⟩
                    rw [if_neg HC.out]
                    have HS2 : Hid (St w G t N w2) := HSA.out.frm hf2 HPP.out.1 HPP.out.2
                    have HWB2 : Hid (Was w2 wr.heap.size G t 0 (t - 0) (some ⟨G, 0, none⟩)) := HWB.out.frm hf2 (fun e => by have := HPL.out; omega)
                    have HWP2 : Hid (Was w2 p G t l (t - l) A2) := hw2
                    clear hw2 hf2 HSA HWA HWB
                    go_wp2_with fail
                    refine (find9 wr.heap.size G t 0 l N q (some ⟨G, 0, none⟩) w2 HP2.out.2 hn HS2.out.ent HWB2 (Nat.zero_le _) hlt2 HF0 HF2).mono ?_
                    rintro e w3 ⟨rfl, ⟨A3, hw3⟩, hf3⟩
                    rw [if_neg HC.out]
                    have HS3 : Hid (St w G t N w3) := HS2.out.frm hf3 HP2.out.1 HP2.out.2
                    have HWP3 : Hid (Was w3 p G t l (t - l) A2) := HWP2.out.frm hf3 (fun e => by have := HPL.out; omega)
                    have HWQ3 : Hid (Was w3 wr.heap.size G t l (t - l) A3) := hw3
                    clear hw3 hf3 HS2 HWP2 HWB2 HST HWAS
                    have hmm : t - l = 0 := by omega
                    have c1 := HWP3.out.cell
                    have c2 := HWQ3.out.cell
                    rw [hmm] at c1 c2
                    have hne : ((0 : Int) != (t : Int) - (l : Int)) = false := by rw [bne_eq_false_iff_eq]; omega
                    clear hmm
                    go_wp2
                    go_quiet (fail)
                    go_wp2
                    go_roundw
                    case rel => exact ⟨s + 1, l, _, by omega, by go_num, hlt2, HWP3.out.drewN _, HS3.out.drewN _, HPS.out⟩
                    case measure => simp [intOf]; omega
                · go_wp2_with fail
                  go_ret
                  exact ⟨rfl, HST.out.below⟩
end Go.Proofs.Qxb6608806aMods
