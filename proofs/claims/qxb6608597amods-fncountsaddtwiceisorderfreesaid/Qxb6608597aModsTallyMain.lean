import Derived.Test.Qxb6608597aModsTally
namespace Go.Proofs.Qxb6608597aMods
open Go.RowKit Go.Maps
set_option linter.unusedVariables false
set_option maxRecDepth 100000

theorem Cnt.drewN {w : World} {cb : Nat} {m : Option Nat} {n s : Nat} {f : Int → Option Int} (hc : Cnt w cb m n f s) (q : Nat) : Cnt (w.drewN q) cb m n f s := by
  refine ⟨hc.cell, hc.free, ?_⟩
  rcases hc.map with h | ⟨b, e, hne, hM⟩
  · exact .inl h
  · exact .inr ⟨b, e, hne, hM.of_block rfl⟩

set_option maxHeartbeats 2000000 in
theorem tally_main (b0 o0 n c : Nat) (L : List Int) (HN : Hid (L.length = n)) (p : Int) (hp : Hid (Fits p)) (w : World) (h0 : 0 < n) (h4 : n ≤ 4096) (hb0 : b0 < w.heap.size)
    (hc : Hid (∀ i, i < n → w.cell? ⟨b0, o0 + i, none⟩ = some (.int .u64 (L.getD i 0)))) (hfit : Hid (∀ i, i < n → Fits (L.getD i 0))) :
    Calls Trym.prog 4 #[.slice (some ⟨b0, o0, none⟩) n c, .int .u64 p] w (YesPost w) := by
  have HC : Hid (Calls Trym.prog 15 #[.slice (some ⟨b0, o0, none⟩) n c, .int .u64 p] w fun e w' => e = .returned (.bool true) ∧ w' = w) := bytes15 (some ⟨b0, o0, none⟩) n c p w (by omega)
  have hn0 : ((n : Int) == 0) = false := by rw [beq_eq_false_iff_ne]; omega
  go_enter Trym.func4, Trym.ntmps4
  go_wp2_with fail
  refine HC.out.mono ?_
  rintro e w' ⟨rfl, hw'⟩
  rw [hw']
  clear HC hw' w'
  go_wp2_with fail
  refine (of16 _ _).mono ?_
  rintro e w1 ⟨rfl, rfl⟩
  have HT0 : Hid (Tal w.heap.size w.heap.size L w 0 (w.alloc (.cells #[.map none] 67))) := tal_start w L
  generalize hcb : w.heap.size = cb at *
  have HCB : Hid (w.heap.size = cb) := hcb
  clear hcb
  generalize w.alloc (.cells #[.map none] 67) = W0 at *
  go_wp2_with fail
  go_loopw [6] (fun i wr => ∃ k : Nat, k ≤ n ∧ i = .int .i64 k ∧ Tal cb cb L w k wr) (fun i _ => n - (intOf i).toNat)
  case atStart => exact ⟨0, Nat.zero_le _, rfl, HT0.out⟩
  case round =>
    obtain ⟨k, hk, rfl, hT⟩ := hrel
    clear HT0
    obtain ⟨m, hcn, hm1, hm2, hbe, hsz⟩ := hT
    have HCN : Hid (Cnt wr cb m k (F (L.take k)) (dis L k)) := hcn
    have HM1 : Hid (m = none ↔ k = 0) := hm1
    have HM2 : Hid (∀ b, m = some b → cb ≤ b) := hm2
    have HBE : Hid (Below cb w wr) := hbe
    have HSZ : Hid (cb ≤ wr.heap.size) := hsz
    clear hcn hm1 hm2 hbe hsz
    by_cases hlt : k < n
    · have hcx : wr.cell? ⟨b0, o0 + k, none⟩ = some (.int .u64 (L.getD k 0)) := by
        rw [HBE.out.cell (p := ⟨b0, o0 + k, none⟩) hb0]; exact hc.out k hlt
      have HFX : Hid (Fits (L.getD k 0)) := hfit.out k hlt
      obtain ⟨x, hx⟩ : ∃ x, x = L.getD k 0 := ⟨_, rfl⟩
      rw [← hx] at hcx HFX
      have HX : Hid (x = L.getD k 0) := hx
      clear hx
      go_wp2_with fail
      refine (add17 cb m k (dis L k) (F (L.take k)) x wr HCN HFX (by omega)).mono ?_
      intro e w' hpost
      have hee : e = .returned (.tuple #[]) := hpost.1
      have HT : Hid (Tal cb cb L w (k + 1) w') := tal_step (by rw [HN.out]; exact hlt) (by omega) (Nat.le_refl _) HM2.out HBE.out HSZ.out (HX.out ▸ hpost)
      clear hpost
      subst hee
      go_wp2_with fail
      go_roundw
      case rel => exact ⟨k + 1, by omega, by go_num, HT.out⟩
      case measure => simp [intOf]; omega
    · obtain rfl : k = n := by omega
      have HLT : Hid (L.take k = L) := List.take_of_length_le (by rw [HN.out]; exact Nat.le_refl _)
      rw [HLT.out] at HCN
      have hcell := HCN.out.cell
      have hmn : m.isNone = false := by
        cases m with
        | none => have := HM1.out.1 rfl; omega
        | some b => rfl
      have HCR : Hid (∀ i, i < k → wr.cell? ⟨b0, o0 + i, none⟩ = some (.int .u64 (L.getD i 0))) := by
        intro i hi
        rw [HBE.out.cell (p := ⟨b0, o0 + i, none⟩) hb0]; exact hc.out i hi
      clear HM1 HM2 HSZ hc hlt HLT
      obtain ⟨W, hW⟩ : ∃ W, W = wr := ⟨_, rfl⟩
      rw [← hW] at HCN HBE HCR hcell ⊢
      clear hW wr
      go_wp2_with fail
      refine (isnil18 cb m W hcell).mono ?_
      rintro e w1 ⟨rfl, hw1⟩
      rw [hmn, hw1]
      clear hcell hmn hw1 w1
      go_wp2_with fail
      go_loopw [7, 8] (fun d i wx => ∃ t : Nat, t ≤ k ∧ i = .int .i64 t ∧ d = .int .i64 (dis L t) ∧ ∃ q, wx = W.drewN q) (fun _ i _ => k - (intOf i).toNat)
      case atStart => exact ⟨0, Nat.zero_le _, rfl, rfl, 0, rfl⟩
      case round =>
        obtain ⟨t, ht, rfl, rfl, q, rfl⟩ := hrel
        have hdl := dis_le L t
        by_cases hlt : t < k
        · obtain ⟨x, hx⟩ : ∃ x, x = L.getD t 0 := ⟨_, rfl⟩
          have hcx : W.cell? ⟨b0, o0 + t, none⟩ = some (.int .u64 x) := by rw [hx]; exact HCR.out t hlt
          have HFX : Hid (Fits x) := by rw [hx]; exact hfit.out t hlt
          have HX : Hid (x = L.getD t 0) := hx
          have hz1 : (0 : Int) ≤ (t : Int) := by omega
          have hz2 : (t : Int) < (k : Int) := by omega
          clear hx
          go_wp2_with fail
          go_loopw [9, 10, 11] (fun o f j wx => ∃ u : Nat, u ≤ k ∧ j = .int .i64 u ∧ o = .int .i64 ((L.take u).count x : Nat) ∧ f = .bool (firstB L t u x) ∧ ∃ q, wx = W.drewN q) (fun _ _ j _ => k - (intOf j).toNat)
          case atStart => exact ⟨0, Nat.zero_le _, rfl, by simp, by simp [firstB], q, rfl⟩
          case round =>
            obtain ⟨u, hu, rfl, rfl, rfl, q2, rfl⟩ := hrel
            have hcl := count_take_le L u x
            by_cases hlu : u < k
            · obtain ⟨z, hz⟩ : ∃ z, z = L.getD u 0 := ⟨_, rfl⟩
              have hcz : W.cell? ⟨b0, o0 + u, none⟩ = some (.int .u64 z) := by rw [hz]; exact HCR.out u hlu
              have HZ : Hid (z = L.getD u 0) := hz
              have HCS : Hid ((L.take (u + 1)).count x = (L.take u).count x + if L.getD u 0 = x then 1 else 0) := count_step (by rw [HN.out]; exact hlu) x
              have hy1 : (0 : Int) ≤ (u : Int) := by omega
              have hy2 : (u : Int) < (k : Int) := by omega
              clear hz
              obtain ⟨cu, hcu⟩ : ∃ cu, cu = (L.take u).count x := ⟨_, rfl⟩
              obtain ⟨fu, hfu⟩ : ∃ fu, fu = firstB L t u x := ⟨_, rfl⟩
              have HCU : Hid (cu = (L.take u).count x) := hcu
              have HFU : Hid (fu = firstB L t u x) := hfu
              rw [← hcu] at hcl ⊢
              rw [← hfu]
              clear hcu hfu
              cases he : (z == x) with
              | true =>
                have HE : Hid (L.getD u 0 = x) := by show L.getD u 0 = x; rw [← HZ.out]; simpa using he
                by_cases hut : u < t
                · go_wp2
                  go_quiet (fail)
                  go_wp2
                  go_roundw
                  case rel =>
                    refine ⟨u + 1, by omega, by go_num, ?_, ?_, _, rfl⟩
                    · rw [HCS.out, if_pos HE.out, ← HCU.out]; go_num
                    · rw [first_hit (by rw [HN.out]; exact hlu) HE.out hut]
                  case measure => simp [intOf]; omega
                · go_wp2
                  go_quiet (fail)
                  go_wp2
                  go_roundw
                  case rel =>
                    refine ⟨u + 1, by omega, by go_num, ?_, ?_, _, rfl⟩
                    · rw [HCS.out, if_pos HE.out, ← HCU.out]; go_num
                    · rw [first_past hut, ← HFU.out]
                  case measure => simp [intOf]; omega
              | false =>
                have HE : Hid (L.getD u 0 ≠ x) := by show L.getD u 0 ≠ x; rw [← HZ.out]; simpa using he
                go_wp2
                go_quiet (fail)
                go_wp2
                go_roundw
                case rel =>
                  refine ⟨u + 1, by omega, by go_num, ?_, ?_, _, rfl⟩
                  · rw [HCS.out, if_neg HE.out, ← HCU.out]
                    rfl
                  · rw [first_miss (by rw [HN.out]; exact hlu) HE.out, ← HFU.out]
                case measure => simp [intOf]; omega
            · obtain rfl : u = k := by omega
              have HLT : Hid (L.take u = L) := List.take_of_length_le (by rw [HN.out]; exact Nat.le_refl _)
              have HFR : Hid (firstB L t u x = !decide (x ∈ L.take t)) := by
                show firstB L t u x = _
                unfold firstB
                rw [show min t u = t by omega]
              have HDS : Hid (dis L (t + 1) = if L.getD t 0 ∈ L.take t then dis L t else dis L t + 1) := rfl
              rw [HLT.out] at hcl ⊢
              rw [HFR.out]
              have HXM : Hid (x ∈ L) := by
                show x ∈ L
                rw [HX.out]
                have hh : t < L.length := by rw [HN.out]; exact hlt
                simp [hh]
              have HG : Hid ((F L x).getD 0 = (L.count x : Int) ∧ (F L x).isSome = true) := ⟨F_getD L x, by rw [F_isSome]; simpa using HXM.out⟩
              have HCNq : Hid (Cnt (W.drewN q2) cb m u (F L) (dis L u)) := HCN.out.drewN q2
              obtain ⟨cl, hcl2⟩ : ∃ cl, cl = L.count x := ⟨_, rfl⟩
              rw [← hcl2] at hcl HG ⊢
              clear hcl2 HFR HLT HXM
              by_cases hin : x ∈ L.take t
              · have HD1 : Hid (dis L (t + 1) = dis L t) := by
                  show dis L (t + 1) = dis L t
                  rw [HDS.out, ← HX.out, if_pos hin]
                have hdb : decide (x ∈ L.take t) = true := decide_eq_true hin
                rw [hdb]
                clear HDS hin hdb
                simp only [Bool.not_true]
                go_wp2_with fail
                refine (get19 cb m u (dis L u) (F L) x _ HCNq HFX).mono ?_
                rintro e w1 ⟨rfl, hw1⟩
                rw [hw1, HG.out.1, HG.out.2]
                clear hw1 w1
                go_wp2_with fail
                go_roundw
                case rel => exact ⟨t + 1, by omega, by go_num, by rw [HD1.out], _, rfl⟩
                case measure => simp [intOf]; omega
              · have HD1 : Hid (dis L (t + 1) = dis L t + 1) := by
                  show dis L (t + 1) = dis L t + 1
                  rw [HDS.out, ← HX.out, if_neg hin]
                have hdb : decide (x ∈ L.take t) = false := decide_eq_false hin
                rw [hdb]
                clear HDS hin hdb
                simp only [Bool.not_false]
                go_wp2_with fail
                refine (get19 cb m u (dis L u) (F L) x _ HCNq HFX).mono ?_
                rintro e w1 ⟨rfl, hw1⟩
                rw [hw1, HG.out.1, HG.out.2]
                clear hw1 w1
                go_wp2_with fail
                go_roundw
                case rel => exact ⟨t + 1, by omega, by go_num, by rw [HD1.out]; go_num, _, rfl⟩
                case measure => simp [intOf]; omega
        · obtain rfl : t = k := by omega
          have HCNq : Hid (Cnt (W.drewN q) cb m t (F L) (dis L t)) := HCN.out.drewN q
          have HBQ : Hid (Below cb w (W.drewN q)) := ⟨HBE.out.os, HBE.out.tape, HBE.out.output, HBE.out.size, HBE.out.block⟩
          have HCRq : Hid (∀ i, i < t → (W.drewN q).cell? ⟨b0, o0 + i, none⟩ = some (.int .u64 (L.getD i 0))) := HCR.out
          clear HCR HBE HCN hlt
          generalize W.drewN q = V at *
          obtain ⟨ds, hds⟩ : ∃ ds, ds = dis L t := ⟨_, rfl⟩
          rw [← hds] at HCNq hdl ⊢
          clear hds
          go_wp2_with fail
          go_loop [14, 15] (fun o j => ∃ u : Nat, u ≤ t ∧ j = .int .i64 u ∧ o = .int .i64 ((L.take u).count p : Nat)) (fun _ j => t - (intOf j).toNat)
          case atStart => exact ⟨0, Nat.zero_le _, rfl, by simp⟩
          case round =>
            obtain ⟨u, hu, rfl, rfl⟩ := hrel
            have hcl := count_take_le L u p
            by_cases hlu : u < t
            · obtain ⟨z, hz⟩ : ∃ z, z = L.getD u 0 := ⟨_, rfl⟩
              have hcz : V.cell? ⟨b0, o0 + u, none⟩ = some (.int .u64 z) := by rw [hz]; exact HCRq.out u hlu
              have HZ : Hid (z = L.getD u 0) := hz
              have HCS : Hid ((L.take (u + 1)).count p = (L.take u).count p + if L.getD u 0 = p then 1 else 0) := count_step (by rw [HN.out]; exact hlu) p
              clear hz
              obtain ⟨cu, hcu⟩ : ∃ cu, cu = (L.take u).count p := ⟨_, rfl⟩
              have HCU : Hid (cu = (L.take u).count p) := hcu
              rw [← hcu] at hcl ⊢
              clear hcu
              cases he : (z == p) with
              | true =>
                have HE : Hid (L.getD u 0 = p) := by show L.getD u 0 = p; rw [← HZ.out]; simpa using he
                go_wp2
                go_round
                case rel => exact ⟨u + 1, by omega, by go_num, by rw [HCS.out, if_pos HE.out, ← HCU.out]; go_num⟩
                case measure => simp [intOf]; omega
              | false =>
                have HE : Hid (L.getD u 0 ≠ p) := by show L.getD u 0 ≠ p; rw [← HZ.out]; simpa using he
                go_wp2
                go_round
                case rel => exact ⟨u + 1, by omega, by go_num, by rw [HCS.out, if_neg HE.out, ← HCU.out]; rfl⟩
                case measure => simp [intOf]; omega
            · obtain rfl : u = t := by omega
              have HLT : Hid (L.take u = L) := List.take_of_length_le (by rw [HN.out]; exact Nat.le_refl _)
              rw [HLT.out] at hcl ⊢
              have HG : Hid ((F L p).getD 0 = (L.count p : Int) ∧ (F L p).isSome = decide (0 < (L.count p : Int))) := ⟨F_getD L p, by
                rw [F_isSome]
                rw [decide_eq_decide, ← List.count_pos_iff]
                omega⟩
              obtain ⟨cl, hcl2⟩ : ∃ cl, cl = L.count p := ⟨_, rfl⟩
              rw [← hcl2] at hcl HG ⊢
              clear hcl2 HLT
              by_cases hpos : (0 : Int) < (cl : Int)
              · have hd : decide ((0 : Int) < (cl : Int)) = true := decide_eq_true hpos
                rw [hd] at HG
                go_wp2_with fail
                refine (get19 cb m u ds (F L) p _ HCNq hp).mono ?_
                rintro e w1 ⟨rfl, hw1⟩
                rw [hw1, HG.out.1, HG.out.2]
                clear hw1 w1
                go_wp2_with fail
                refine (len20 cb m u ds (F L) _ HCNq).mono ?_
                rintro e w1 ⟨rfl, hw1⟩
                rw [hw1]
                clear hw1 w1
                go_wp2_with fail
                go_ret
                exact ⟨by simp, by rw [HCB.out]; exact HBQ.out⟩
              · have hd : decide ((0 : Int) < (cl : Int)) = false := decide_eq_false hpos
                rw [hd] at HG
                go_wp2_with fail
                refine (get19 cb m u ds (F L) p _ HCNq hp).mono ?_
                rintro e w1 ⟨rfl, hw1⟩
                rw [hw1, HG.out.1, HG.out.2]
                clear hw1 w1
                go_wp2_with fail
                refine (len20 cb m u ds (F L) _ HCNq).mono ?_
                rintro e w1 ⟨rfl, hw1⟩
                rw [hw1]
                clear hw1 w1
                go_wp2_with fail
                go_ret
                exact ⟨by simp, by rw [HCB.out]; exact HBQ.out⟩
end Go.Proofs.Qxb6608597aMods
