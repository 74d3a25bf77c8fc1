import Derived.Test.Qxb6608970aModsDrop
namespace Go.Proofs.Qxb6608970aMods
open Go.RowKit
set_option linter.unusedVariables false
set_option maxRecDepth 100000

abbrev OthL := List (Str × List Str)
def rN (O : OthL) (i : Nat) : Str := (O.getD i (ByteArray.empty, [])).1
def cN (O : OthL) (i : Nat) : List Str := (O.getD i (ByteArray.empty, [])).2

/-- One entry: its reader's cell, its channels' cell and their row. -/
structure OthAt (M : Nat) (w : World) (b o : Nat) (r : Str) (N : List Str) : Prop where
  c0 : w.cell? ⟨b, o, none⟩ = some (.string r)
  c1 : ∃ a l c, w.cell? ⟨b, o + 1, none⟩ = some (.slice a l c) ∧ Strs M w a l N ∧ (a = none → l = 0 ∧ c = 0)
/-- A slice of others. -/
structure Oth (M : Nat) (w : World) (a : Option Addr) (n : Nat) (O : OthL) : Prop where
  len : O.length = n
  max : n ≤ maxLen
  row : 0 < n → ∃ b o, a = some ⟨b, o, none⟩ ∧ b < M ∧ ∀ i, i < n → OthAt M w b (o + i * 2) (rN O i) (cN O i)
  sz : ∀ i, i < n → (rN O i).size ≤ maxLen
theorem OthAt.below {M b o : Nat} {w w' : World} {r : Str} {N : List Str} (h : OthAt M w b o r N) (hl : b < M) (hb : Below M w w') : OthAt M w' b o r N := by
  obtain ⟨a, l, c, h1, h2, h3⟩ := h.c1
  exact ⟨by rw [hb.cell (p := ⟨b, o, none⟩) hl]; exact h.c0, a, l, c, by rw [hb.cell (p := ⟨b, o + 1, none⟩) hl]; exact h1, h2.below hb, h3⟩
theorem Oth.below {M : Nat} {w w' : World} {a : Option Addr} {n : Nat} {O : OthL} (h : Oth M w a n O) (hb : Below M w w') : Oth M w' a n O :=
  ⟨h.len, h.max, fun h0 => by
    obtain ⟨b, o, e, hl, hc⟩ := h.row h0
    exact ⟨b, o, e, hl, fun i hi => (hc i hi).below hl hb⟩, h.sz⟩

def ShortS (N : List Str) (m : Nat) : Prop := m ≤ 1048576 ∧ ∀ k, k < m → (nm N k).size ≤ 1048576
def Short8 (O : OthL) (n : Nat) (rd : Str) (ch : List Str) (m : Nat) : Prop := n ≤ 1048576 ∧ (∀ i, i < n → (rN O i).size ≤ 1048576 ∧ ShortS (cN O i) (cN O i).length) ∧ rd.size ≤ 1048576 ∧ ShortS ch m
def BytesPost8 (O : OthL) (n : Nat) (rd : Str) (ch : List Str) (m : Nat) (w : World) (e : Ending) (w' : World) : Prop := ∃ q : Bool, e = .returned (.bool q) ∧ (q = true → Short8 O n rd ch m) ∧ w' = w

set_option maxHeartbeats 4000000 in
theorem bytes17 (a0 a2 : Option Addr) (n c0 m c2 : Nat) (O : OthL) (rd : Str) (ch : List Str) (q : Bool) (w : World) (r0 : Hid (Oth w.heap.size w a0 n O)) (hs : rd.size ≤ maxLen) (r2 : Hid (Strs w.heap.size w a2 m ch)) :
    Calls Trym.prog 17 #[.slice a0 n c0, .string rd, .slice a2 m c2, .bool q] w (BytesPost8 O n rd ch m w) := by
  have m0 := r0.out.max
  have m2 := r2.out.max
  unfold maxLen at m0 hs m2
  have NO : Hid (∀ e w', (∃ q : Bool, q = false ∧ e = .returned (.bool q) ∧ w' = w) → BytesPost8 O n rd ch m w e w') := fun e w' ⟨q, h1, h2, h3⟩ => ⟨q, h2, (fun h => by rw [h1] at h; cases h), h3⟩
  by_cases hn : n ≤ 1048576
  · go_enter Trym.func17, Trym.ntmps17
    go_wp2_with fail
    go_loop [9, 10] (fun t i => ∃ (k T : Nat), k ≤ n ∧ T ≤ 1048576 ∧ i = .int .i64 k ∧ t = .int .i64 T ∧ Hid (∀ j, j < k → (rN O j).size ≤ 1048576 ∧ ShortS (cN O j) (cN O j).length)) (fun _ i => n - (intOf i).toNat)
    case atStart => exact ⟨0, n, Nat.zero_le _, hn, rfl, rfl, fun j hj => absurd hj (Nat.not_lt_zero _)⟩
    case round =>
      obtain ⟨k, T, hk, hT, rfl, rfl, HA⟩ := hrel
      by_cases hlt : k < n
      · obtain ⟨b, o, rfl, _, R⟩ := r0.out.row (by omega)
        have hcx := (R k hlt).c0
        obtain ⟨ak, lk, ck, hcy, HS, _⟩ := (R k hlt).c1
        have hsx := r0.out.sz k hlt
        have hsl := HS.max
        have hll := HS.len
        have HSK : Hid (Strs w.heap.size w ak lk (cN O k)) := HS
        unfold maxLen at hsx hsl
        clear R HS
        obtain ⟨x, hx⟩ : ∃ x, x = rN O k := ⟨_, rfl⟩
        obtain ⟨C, hC⟩ : ∃ C, C = cN O k := ⟨_, rfl⟩
        rw [← hx] at hcx hsx
        rw [← hC] at HSK hll
        have HX : Hid (x = rN O k ∧ C = cN O k ∧ C.length = lk) := ⟨hx, hC, hll⟩
        clear hx hC hll
        by_cases h1 : 1048576 < x.size
        · go_wp2
          go_ret
          exact NO.out _ _ ⟨false, rfl, rfl, rfl⟩
        · by_cases h2 : 1048576 < T + x.size
          · go_wp2
            go_ret
            exact NO.out _ _ ⟨false, rfl, rfl, rfl⟩
          · by_cases h3 : 1048576 < lk
            · go_wp2
              go_ret
              exact NO.out _ _ ⟨false, rfl, rfl, rfl⟩
            · by_cases h4 : 1048576 < T + x.size + lk
              · go_wp2
                go_ret
                exact NO.out _ _ ⟨false, rfl, rfl, rfl⟩
              · go_wp2
                go_loop [9, 11] (fun t i => ∃ (j U : Nat), j ≤ lk ∧ U ≤ 1048576 ∧ i = .int .i64 j ∧ t = .int .i64 U ∧ Hid (∀ v, v < j → (nm C v).size ≤ 1048576)) (fun _ i => lk - (intOf i).toNat)
                case atStart => exact ⟨0, T + x.size + lk, Nat.zero_le _, by omega, rfl, by go_num, fun j hj => absurd hj (Nat.not_lt_zero _)⟩
                case round =>
                  obtain ⟨j, U, hj, hU, rfl, rfl, HB⟩ := hrel
                  by_cases hjl : j < lk
                  · obtain ⟨b2, o2, rfl, _, R2⟩ := HSK.out.row (by omega)
                    have hcz := R2 j hjl
                    have hsz := HSK.out.sz j hjl
                    unfold maxLen at hsz
                    clear R2
                    obtain ⟨y, hy⟩ : ∃ y, y = nm C j := ⟨_, rfl⟩
                    rw [← hy] at hcz hsz
                    have HY : Hid (y = nm C j) := hy
                    clear hy
                    by_cases h5 : 1048576 < y.size
                    · go_wp2
                      go_ret
                      exact NO.out _ _ ⟨false, rfl, rfl, rfl⟩
                    · by_cases h6 : 1048576 < U + y.size
                      · go_wp2
                        go_ret
                        exact NO.out _ _ ⟨false, rfl, rfl, rfl⟩
                      · go_wp2
                        go_round
                        case rel =>
                          refine ⟨j + 1, U + y.size, by omega, by omega, by go_num, by go_num, fun v hv => ?_⟩
                          by_cases e : v = j
                          · subst e; rw [← HY.out]; omega
                          · exact HB.out v (by omega)
                        case measure => simp [intOf]; omega
                  · obtain rfl : j = lk := by omega
                    go_wp2
                    go_round
                    case rel =>
                      refine ⟨k + 1, U, by omega, hU, by go_num, rfl, fun v hv => ?_⟩
                      by_cases e : v = k
                      · subst e
                        obtain ⟨e1, e2, e3⟩ := HX.out
                        rw [← e1, ← e2, e3]
                        exact ⟨by omega, by omega, HB.out⟩
                      · exact HA.out v (by omega)
                    case measure => simp [intOf]; omega
      · obtain rfl : k = n := by omega
        clear r0
        by_cases h1 : 1048576 < rd.size
        · go_wp2_with fail
          go_ret
          exact NO.out _ _ ⟨false, rfl, rfl, rfl⟩
        · by_cases h2 : 1048576 < T + rd.size
          · go_wp2_with fail
            go_ret
            exact NO.out _ _ ⟨false, rfl, rfl, rfl⟩
          · by_cases h3 : 1048576 < m
            · go_wp2_with fail
              go_ret
              exact NO.out _ _ ⟨false, rfl, rfl, rfl⟩
            · by_cases h4 : 1048576 < T + rd.size + m
              · go_wp2_with fail
                go_ret
                exact NO.out _ _ ⟨false, rfl, rfl, rfl⟩
              · go_wp2_with fail
                go_loop [9, 12] (fun t i => ∃ (j U : Nat), j ≤ m ∧ U ≤ 1048576 ∧ i = .int .i64 j ∧ t = .int .i64 U ∧ Hid (∀ v, v < j → (nm ch v).size ≤ 1048576)) (fun _ i => m - (intOf i).toNat)
                case atStart => exact ⟨0, T + rd.size + m, Nat.zero_le _, by omega, rfl, by go_num, fun j hj => absurd hj (Nat.not_lt_zero _)⟩
                case round =>
                  obtain ⟨j, U, hj, hU, rfl, rfl, HB⟩ := hrel
                  by_cases hjl : j < m
                  · obtain ⟨b2, o2, rfl, _, R2⟩ := r2.out.row (by omega)
                    have hcz := R2 j hjl
                    have hsz := r2.out.sz j hjl
                    unfold maxLen at hsz
                    clear R2
                    obtain ⟨y, hy⟩ : ∃ y, y = nm ch j := ⟨_, rfl⟩
                    rw [← hy] at hcz hsz
                    have HY : Hid (y = nm ch j) := hy
                    clear hy
                    by_cases h5 : 1048576 < y.size
                    · go_wp2
                      go_ret
                      exact NO.out _ _ ⟨false, rfl, rfl, rfl⟩
                    · by_cases h6 : 1048576 < U + y.size
                      · go_wp2
                        go_ret
                        exact NO.out _ _ ⟨false, rfl, rfl, rfl⟩
                      · go_wp2
                        go_round
                        case rel =>
                          refine ⟨j + 1, U + y.size, by omega, by omega, by go_num, by go_num, fun v hv => ?_⟩
                          by_cases e : v = j
                          · subst e; rw [← HY.out]; omega
                          · exact HB.out v (by omega)
                        case measure => simp [intOf]; omega
                  · obtain rfl : j = m := by omega
                    go_wp2_with fail
                    go_ret
                    exact ⟨true, rfl, fun _ => ⟨hn, HA.out, by omega, by omega, HB.out⟩, rfl⟩
  · go_enter Trym.func17, Trym.ntmps17
    go_wp2_with fail
    go_ret
    exact NO.out _ _ ⟨false, rfl, rfl, rfl⟩
end Go.Proofs.Qxb6608970aMods
