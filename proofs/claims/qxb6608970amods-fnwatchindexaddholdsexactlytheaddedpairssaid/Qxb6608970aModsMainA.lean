import Derived.Test.Qxb6608970aModsStep
import Derived.Deep.RegionHeld3
namespace Go.Proofs.Qxb6608970aMods
open Go.RowKit
set_option linter.unusedVariables false
set_option maxRecDepth 100000

def YesPost (w : World) (e : Ending) (w' : World) : Prop := e = .returned (.bool true) ∧ Below w.heap.size w w'

/-- All the letters of the making: the copy's row bs, the row of all ba. -/
structure Mk (A : EntL) (n bx bp ba k : Nat) (a' : Option Addr) (w wr : World) : Prop where
  st : St w.heap.size A bx bp k w wr
  src : 0 < n → ∃ b, a' = some ⟨b, 0, none⟩ ∧ b ≠ ba ∧ wr.rowIs b 32 (n * 2) (entF A n)
  row : wr.rowIs ba 32 ((n + 1) * 2) (entF A k)
  lo : w.heap.size ≤ ba

theorem st_start {w w1 : World} (h : Below w.heap.size w w1) (A : EntL) (o : Obj) : St w.heap.size A w1.heap.size (w1.heap.size + 1) 0 w (((w1.alloc (.map #[] 0)).alloc (.map #[] 0)).alloc o) := by
  have hs := h.size
  have e1 : (w1.alloc (.map #[] 0)).heap.size = w1.heap.size + 1 := by simp
  have i1 := Idx.made (base := w.heap.size) w1 hs
  have p1 := Pool.made (base := w.heap.size) (w1.alloc (.map #[] 0)) (by rw [e1]; omega)
  rw [e1] at p1
  have f := Frm.alloc (w1.alloc (.map #[] 0)) (.map #[] 0) (fun _ => False)
  have hx : Stx w.heap.size A w1.heap.size (w1.heap.size + 1) 0 (fun _ => none) [] (fun _ => none) w ((w1.alloc (.map #[] 0)).alloc (.map #[] 0)) :=
    ⟨i1.frm f (fun _ _ h => h) (fun q hq => by cases hq), p1, (by rintro (h | ⟨s, h⟩); omega; cases h), (h.alloc hs _).alloc (by rw [e1]; omega) _, by simp; omega, (fun q => ⟨fun h => (by cases h), fun ⟨i, hi, _⟩ => absurd hi (Nat.not_lt_zero _)⟩), (fun i hi => absurd hi (Nat.not_lt_zero _)), Nat.le_refl _⟩
  exact ⟨_, _, _, hx.alloc o⟩

theorem mk_start {w w1 : World} {A : EntL} {n : Nat} {a' : Option Addr} (h : Below w.heap.size w w1) (hs : 0 < n → ∃ b, a' = some ⟨b, 0, none⟩ ∧ w1.rowIs b 32 (n * 2) (entF A n)) :
    Mk A n w1.heap.size (w1.heap.size + 1) (w1.heap.size + 1 + 1) 0 a' w (((w1.alloc (.map #[] 0)).alloc (.map #[] 0)).alloc (.cells (madeCells #[.string ByteArray.empty, .int .i64 0] ((n + 1) * 2)) 32)) := by
  have hz := h.size
  have e2 : ((w1.alloc (.map #[] 0)).alloc (.map #[] 0)).heap.size = w1.heap.size + 1 + 1 := by simp
  have r := ents_made ((w1.alloc (.map #[] 0)).alloc (.map #[] 0)) A (n + 1)
  rw [e2] at r
  refine ⟨st_start h A _, fun h0 => ?_, r, by omega⟩
  obtain ⟨b, e, hr⟩ := hs h0
  have := hr.lt
  exact ⟨b, e, by omega, ((hr.alloc _).alloc _).alloc _⟩

theorem entF_app {E : EntL} {n : Nat} (hl : E.length = n) (q : Str × Int) : entF (E ++ [q]) n = entF E n := by
  funext j
  unfold entF eN eI
  by_cases c : j / 2 < n
  · have : (E ++ [q]).getD (j / 2) (ByteArray.empty, 0) = E.getD (j / 2) (ByteArray.empty, 0) := by
      rw [List.getD_eq_getElem?_getD, List.getD_eq_getElem?_getD, List.getElem?_append_left (by omega)]
    rw [if_pos c, if_pos c, this]
  · rw [if_neg c, if_neg c]
theorem eN_last {E : EntL} {n : Nat} (hl : E.length = n) (q : Str × Int) : eN (E ++ [q]) n = q.1 ∧ eI (E ++ [q]) n = q.2 := by
  unfold eN eI
  rw [List.getD_eq_getElem?_getD, ← hl]
  simp

/-- The round's two stores, then the two calls. -/
theorem mk_store {A : EntL} {n bx bp ba k : Nat} {a' : Option Addr} {w wr : World} (h : Mk A n bx bp ba k a' w wr) (hk : k ≤ n) :
    Hid (St w.heap.size A bx bp k w ((wr.setCell ⟨ba, k * 2, none⟩ (.string (eN A k))).setCell ⟨ba, k * 2 + 1, none⟩ (.int .i64 (eI A k))) ∧
      (0 < n → ∃ b, a' = some ⟨b, 0, none⟩ ∧ b ≠ ba ∧ ((wr.setCell ⟨ba, k * 2, none⟩ (.string (eN A k))).setCell ⟨ba, k * 2 + 1, none⟩ (.int .i64 (eI A k))).rowIs b 32 (n * 2) (entF A n)) ∧
      ((wr.setCell ⟨ba, k * 2, none⟩ (.string (eN A k))).setCell ⟨ba, k * 2 + 1, none⟩ (.int .i64 (eI A k))).rowIs ba 32 ((n + 1) * 2) (entF A (k + 1))) := by
  obtain ⟨B, L, Q, hs⟩ := h.st
  have c1 := cellB_of_row h.row
  have r1 := h.row.set (k * 2) (.string (eN A k))
  have s1 := hs.setCell (o := k * 2) c1 h.lo (.string (eN A k))
  have s2 := s1.setCell (o := k * 2 + 1) (cellB_of_row r1) h.lo (.int .i64 (eI A k))
  refine ⟨⟨B, L, Q, s2⟩, fun h0 => ?_, ents_step h.row⟩
  obtain ⟨b, e, hne, hr⟩ := h.src h0
  exact ⟨b, e, hne, (hr.setOther hne _).setOther hne _⟩

theorem mk_next {A : EntL} {n bx bp ba k : Nat} {a' : Option Addr} {w wr w' : World} (hs : St w.heap.size A bx bp (k + 1) w w') (hc : KeepC wr w') (hlo : w.heap.size ≤ ba)
    (h1 : 0 < n → ∃ b, a' = some ⟨b, 0, none⟩ ∧ b ≠ ba ∧ wr.rowIs b 32 (n * 2) (entF A n)) (h2 : wr.rowIs ba 32 ((n + 1) * 2) (entF A (k + 1))) : Mk A n bx bp ba (k + 1) a' w w' :=
  ⟨hs, fun h0 => by obtain ⟨b, e, hne, hr⟩ := h1 h0; exact ⟨b, e, hne, hc.row hr⟩, hc.row h2, hlo⟩

/-- Behind the call of watchOf: what add is to be called with, and what it leaves. -/
def Nxt16 (A : EntL) (n bx bp ba t b : Nat) (a' : Option Addr) (x : Str) (y : Int) (w : World) (e : Ending) (w1 : World) : Prop :=
  ∃ bb, e = .returned (.pointer (some ⟨bb, 0, none⟩)) ∧
    Hid (Calls Trym.prog 15 #[.map (some bx), .string x, .pointer (some ⟨bb, 0, none⟩)] w1 (fun e w2 => e = .returned (.tuple #[]) ∧ Hid (Mk A n bx bp ba (t + 1) a' w w2) ∧ w2.cell? ⟨b, t * 2, none⟩ = some (.string x) ∧ w2.cell? ⟨b, t * 2 + 1, none⟩ = some (.int .i64 y))) ∧
    w1.cell? ⟨b, t * 2, none⟩ = some (.string x) ∧ w1.cell? ⟨b, t * 2 + 1, none⟩ = some (.int .i64 y)

theorem row_cells {wr : World} {b n t : Nat} {A : EntL} (h : wr.rowIs b 32 (n * 2) (entF A n)) (ht : t < n) : wr.cell? ⟨b, t * 2, none⟩ = some (.string (eN A t)) ∧ wr.cell? ⟨b, t * 2 + 1, none⟩ = some (.int .i64 (eI A t)) := by
  have h1 := h.cell (i := t * 2) (by omega)
  have h2 := h.cell (i := t * 2 + 1) (by omega)
  unfold entF at h1 h2
  have e2 : (t * 2 + 1) / 2 = t := by omega
  have e3 : (t * 2 + 1) % 2 = 1 := by omega
  have e4 : (t * 2) / 2 = t := by omega
  have e5 : (t * 2) % 2 = 0 := by omega
  simp only [e2, e3, e4, e5, ht, if_true] at h1 h2
  exact ⟨h1, by simpa using h2⟩

theorem nxt16 {A : EntL} {n bx bp ba t b : Nat} {a' : Option Addr} {w V : World} (ht : t < n) (hs : St w.heap.size A bx bp t w V) (hlo : w.heap.size ≤ ba) (ea : a' = some ⟨b, 0, none⟩) (hne : b ≠ ba)
    (h1 : V.rowIs b 32 (n * 2) (entF A n)) (h2 : V.rowIs ba 32 ((n + 1) * 2) (entF A (t + 1))) : Calls Trym.prog 16 #[.map (some bp), .int .i64 (eI A t)] V.drew (Nxt16 A n bx bp ba t b a' (eN A t) (eI A t) w) := by
  obtain ⟨B, L, Q, hx⟩ := hs
  refine (step16 w.heap.size A bx bp t w V.drew ⟨B, L, Q, hx.drew⟩).mono ?_
  rintro e w1 ⟨bb, rfl, hst, hk⟩
  have r1 := hk.row (h1.drew)
  have r2 := hk.row (h2.drew)
  refine ⟨bb, rfl, ?_, row_cells r1 ht⟩
  refine (step15 w.heap.size A bx bp t bb w w1 hst).mono ?_
  rintro e w2 ⟨rfl, hst2, hk2⟩
  exact ⟨rfl, mk_next hst2 hk2 hlo (fun _ => ⟨b, ea, hne, r1⟩) r2, row_cells (hk2.row r1) ht⟩

theorem look_fin {base : Nat} {A : EntL} {bx bp k t : Nat} {B : Str → Option Nat} {L : PairsL} {Q : Int → Option Nat} {w0 w : World} (h : Stx base A bx bp k B L Q w0 w) (ht : t < k) :
    ∃ p m, (Instr.lookup 36 (.map (some bp)) (.int .i64 (eI A t)) false).run Trym.prog w = .ok (.pointer (some ⟨p, 0, none⟩)) w ∧
      (Instr.lookup 35 (.map (some bx)) (.string (eN A t)) false).run Trym.prog w = .ok (.map m) w ∧
      (Instr.lookup 42 (.map m) (.pointer (some ⟨p, 0, none⟩)) true).run Trym.prog w = .ok (.tuple #[.agg #[], .bool true]) w := by
  obtain ⟨p, hp⟩ := Option.isSome_iff_exists.1 (h.all t ht)
  refine ⟨p, B (eN A t), ?_, h.idx.look _, ?_⟩
  · rw [h.pool.look, hp]; rfl
  · rw [h.idx.look2 _ (h.pool.cell _ _ hp)]
    have : (eN A t, p) ∈ L := (h.mem _).2 ⟨t, ht, rfl, hp⟩
    simp [this]
theorem len_fin {base : Nat} {A : EntL} {bx bp k : Nat} {B : Str → Option Nat} {L : PairsL} {Q : Int → Option Nat} {w0 w : World} (h : Stx base A bx bp k B L Q w0 w) (s : Str) :
    ∃ m, (Instr.lookup 35 (.map (some bx)) (.string s) false).run Trym.prog w = .ok (.map m) w ∧ ∀ ty, (Builtin.len_ #[42] ty #[.map m]).run Trym.prog w = .ok (.int .i64 (cnt L s)) w :=
  ⟨B s, h.idx.look _, fun ty => h.idx.len2 s ty⟩

set_option maxHeartbeats 4000000 in
theorem main7 (a0 : Option Addr) (n c0 : Nat) (E : EntL) (s : Str) (id : Int) (w : World) (r0 : Hid (Ents w a0 n E)) (hs : s.size ≤ maxLen) (hc : a0 = none → n = 0 ∧ c0 = 0) :
    Calls Trym.prog 7 #[.slice a0 n c0, .string s, .int .i64 id] w (YesPost w) := by
  have m0 := r0.out.max
  have HC13 : Hid (Calls Trym.prog 13 #[.slice a0 n c0, .string s, .int .i64 id] w (BytesPost E n s w)) := bytes13 a0 n c0 E s id w r0 hs
  have HC14 : Hid (n ≤ 1048576 → Calls Trym.prog 14 #[.slice a0 n c0] w (ClonePost n E w)) := fun h => clone14 a0 n c0 E w h r0.out hc
  clear hc
  unfold maxLen at m0 hs
  have YES : Hid (YesPost w (.returned (.bool true)) w) := ⟨rfl, Below.refl _ _⟩
  go_enter Trym.func7, Trym.ntmps7
  go_wp2_with fail
  refine HC13.out.mono ?_
  rintro e w1 ⟨q, rfl, hsh, hw1⟩
  rw [hw1]
  clear hw1 w1 HC13
  cases q with
  | false =>
    clear hsh
    go_wp2_with fail
    go_ret
    exact YES.out
  | true =>
    have HSH : Hid (Short E n s) := hsh rfl
    have hs1 := HSH.out.2.2
    clear hsh hs m0
    by_cases h4 : 4096 < n
    · go_wp2_with fail
      go_ret
      exact YES.out
    · go_wp2_with fail
      go_loop [7, 8] (fun t i => ∃ (k T : Nat), k ≤ n ∧ T ≤ 1048576 ∧ i = .int .i64 k ∧ t = .int .i64 T) (fun _ i => n - (intOf i).toNat)
      case atStart => exact ⟨0, s.size, Nat.zero_le _, hs1, rfl, rfl⟩
      case round =>
        obtain ⟨k, T, hk, hT, rfl, rfl⟩ := hrel
        by_cases hlt : k < n
        · obtain ⟨b, o, rfl, _, R⟩ := r0.out.row (by omega)
          have hcx := (R k hlt).1
          have hsx := HSH.out.2.1 k hlt
          clear R HC14
          generalize eN E k = x at *
          by_cases h2 : 1048576 < T + (24 + x.size)
          · go_wp2
            go_ret
            exact YES.out
          · go_wp2
            go_round
            case rel => exact ⟨k + 1, T + (24 + x.size), by omega, by omega, by go_num, by go_num⟩
            case measure => simp [intOf]; omega
        · obtain rfl : k = n := by omega
          have C14 : Hid (Calls Trym.prog 14 #[.slice a0 k c0] w (ClonePost k E w)) := HC14.out (by omega)
          clear HC14 YES
          go_wp2_with fail
          refine C14.out.mono ?_
          rintro e w1 ⟨a', rfl, hb1, hsrc⟩
          have hlen := r0.out.len
          obtain ⟨A, hA⟩ : ∃ A, A = E ++ [(s, id)] := ⟨_, rfl⟩
          rw [← entF_app hlen (s, id), ← hA] at hsrc
          have HM0 := mk_start (A := A) (n := k) hb1 hsrc
          have HL : Hid (s = eN A k ∧ id = eI A k) := by
            have := eN_last hlen (s, id)
            rw [← hA] at this
            exact ⟨this.1.symm, this.2.symm⟩
          have hmm := @run_makeMap Trym.prog
          have hmk := run_make32 (k + 1) (by omega)
          simp only [Int.natCast_add, Int.natCast_one] at hmk
          have HM : Hid _ := HM0
          clear HM0 hb1 hsrc hlen hA C14 r0 hlt HSH
          go_wp2_with fail
          generalize (((w1.alloc (.map #[] 0)).alloc (.map #[] 0)).alloc (.cells (madeCells #[.string ByteArray.empty, .int .i64 0] ((k + 1) * 2)) 32)) = W at *
          generalize w1.heap.size = bx at *
          clear hmm hmk w1
          go_loopw [12] (fun i wr => ∃ t : Nat, t ≤ k ∧ i = .int .i64 t ∧ Mk A k bx (bx + 1) (bx + 1 + 1) t a' w wr) (fun i _ => k - (intOf i).toNat)
          case atStart => exact ⟨0, Nat.zero_le _, rfl, HM.out⟩
          case round =>
            clear HM W
            obtain ⟨t, ht, rfl, hmk⟩ := hrel
            have HK : Hid (Mk A k bx (bx + 1) (bx + 1 + 1) t a' w wr) := hmk
            clear hmk
            by_cases hlt : t < k
            · obtain ⟨b, rfl, hne, hr⟩ := HK.out.src (by omega)
              obtain ⟨hc1, hc2⟩ := row_cells hr hlt
              have hrow := HK.out.row
              have hw1 := hrow.cell (i := t * 2) (by omega)
              have hw2 := hrow.cell (i := t * 2 + 1) (by omega)
              have hf1 := hrow.frozen (t * 2)
              have hf2 := hrow.frozen (t * 2 + 1)
              have HSt := mk_store HK.out ht
              have HLO : Hid (w.heap.size ≤ bx + 1 + 1) := HK.out.lo
              have HNE : Hid (b ≠ bx + 1 + 1) := hne
              have hz1 : (0 : Int) ≤ (t : Int) := by omega
              have hz2 : (t : Int) < (k : Int) := by omega
              clear hr hrow HK HL hne
              go_wp2_with fail
              generalize ((wr.setCell ⟨bx + 1 + 1, t * 2, none⟩ (.string (eN A t))).setCell ⟨bx + 1 + 1, t * 2 + 1, none⟩ (.int .i64 (eI A t))) = V at *
              clear hc1 hc2 hw1 hw2 hf1 hf2 wr
              have HR1 : Hid (V.rowIs b 32 (k * 2) (entF A k)) := by
                obtain ⟨b', e, _, h⟩ := HSt.out.2.1 (by omega)
                cases e
                exact h
              obtain ⟨hc1, hc2⟩ := row_cells HR1.out hlt
              have HC16 : Hid (Calls Trym.prog 16 #[.map (some (bx + 1)), .int .i64 (eI A t)] V.drew (Nxt16 A k bx (bx + 1) (bx + 1 + 1) t b (some ⟨b, 0, none⟩) (eN A t) (eI A t) w)) := nxt16 hlt HSt.out.1 HLO.out rfl HNE.out HR1.out HSt.out.2.2
              generalize eN A t = x at *
              generalize eI A t = y at *
              clear HSt HR1 HLO HNE
              go_region_held3 (fun w' => w'.cell? ⟨b, t * 2, none⟩ = some (.string x) ∧ w'.cell? ⟨b, t * 2 + 1, none⟩ = some (.int .i64 y)) (go_keep)
                (first | (go_at_call 16; refine HC16.out.mono ?_; rintro e w1 ⟨bb, rfl, HC15, hk1, hk2⟩) | (go_at_call 15; refine HC15.out.mono ?_; rintro e w2 ⟨rfl, HMK, hk3, hk4⟩))
              clear HC15 HC16 hc1 hc2 hk1 hk2 hk3 hk4 V
              go_wp2_with fail
              go_roundw
              case rel => exact ⟨t + 1, by omega, by go_num, HMK.out⟩
              case measure => simp [intOf]; omega
            · obtain rfl : t = k := by omega
              have hrow := HK.out.row
              have hw1 := hrow.cell (i := t * 2) (by omega)
              have hw2 := hrow.cell (i := t * 2 + 1) (by omega)
              have hf1 := hrow.frozen (t * 2)
              have hf2 := hrow.frozen (t * 2 + 1)
              have HSt := mk_store HK.out (Nat.le_refl t)
              rw [← HL.out.1, ← HL.out.2] at HSt
              have hz1 : (0 : Int) ≤ (t : Int) := by omega
              have hz2 : (t : Int) < (t : Int) + 1 := by omega
              clear hrow HK hlt
              go_wp2_with fail
              generalize ((wr.setCell ⟨bx + 1 + 1, t * 2, none⟩ (.string s)).setCell ⟨bx + 1 + 1, t * 2 + 1, none⟩ (.int .i64 id)) = V at *
              clear hw1 hw2 hf1 hf2 wr
              have HC16 : Hid (Calls Trym.prog 16 #[.map (some (bx + 1)), .int .i64 id] V (Post16 w.heap.size A bx (bx + 1) t w V)) := by
                rw [HL.out.2]; exact step16 _ _ _ _ _ _ _ HSt.out.1
              refine HC16.out.mono ?_
              rintro e w1 ⟨bb, rfl, hst1, hkc1⟩
              have HC15 : Hid (Calls Trym.prog 15 #[.map (some bx), .string s, .pointer (some ⟨bb, 0, none⟩)] w1 (Post15 w.heap.size A bx (bx + 1) t w w1)) := by
                rw [HL.out.1]; exact step15 _ _ _ _ _ _ _ _ hst1
              have HK1 : Hid (KeepC V w1) := hkc1
              clear hst1 hkc1 HC16
              go_wp2_with fail
              refine HC15.out.mono ?_
              rintro e w2 ⟨rfl, hst2, hkc2⟩
              have HR : Hid (w2.rowIs (bx + 1 + 1) 32 ((t + 1) * 2) (entF A (t + 1))) := hkc2.row (HK1.out.row HSt.out.2.2)
              obtain ⟨B, M, Q, hx⟩ := hst2
              have HX : Hid (Stx w.heap.size A bx (bx + 1) (t + 1) B M Q w w2) := hx
              have HP : Hid (nmC A (t + 1) = dn M ∧ szC A M (t + 1) = prC A (t + 1)) := plain_fin hx.idx.nodup hx.mem hx.all hx.pool.inj
              have hfew := hx.few
              clear hx hkc2 HC15 HK1 HSt HL hz1 hz2 hs1 w1 V
              have hN : t + 1 ≤ 4097 := by omega
              generalize t + 1 = N at *
              go_wp2_with fail
              go_loopw [13, 14, 15, 16] (fun a b c i wr => ∃ k : Nat, k ≤ N ∧ i = .int .i64 k ∧ a = .int .i64 (nmC A k) ∧ b = .int .i64 (prC A k) ∧ c = .int .i64 (szC A M k) ∧ Stx w.heap.size A bx (bx + 1) N B M Q w wr ∧ wr.rowIs (bx + 1 + 1) 32 (N * 2) (entF A N)) (fun _ _ _ i _ => N - (intOf i).toNat)
              case atStart => exact ⟨0, Nat.zero_le _, rfl, rfl, rfl, rfl, HX.out, HR.out⟩
              case round =>
                clear HX HR w2
                obtain ⟨k, hk, rfl, rfl, rfl, rfl, hx, hr⟩ := hrel
                have HX : Hid (Stx w.heap.size A bx (bx + 1) N B M Q w wr) := hx
                have HR : Hid (wr.rowIs (bx + 1 + 1) 32 (N * 2) (entF A N)) := hr
                clear hx hr
                have b1 := nmC_le A k
                have b2 := prC_le A k
                have b3 : szC A M k ≤ 16785409 := Nat.le_trans (szC_le A M k) (Nat.le_trans (Nat.mul_le_mul (Nat.le_trans hk hN) (Nat.le_trans hfew hN)) (by decide))
                by_cases hlt : k < N
                · obtain ⟨p, m, hl1, hl2, hl3⟩ := look_fin HX.out hlt
                  obtain ⟨hc1, hc2⟩ := row_cells HR.out hlt
                  have hz1 : (0 : Int) ≤ (k : Int) := by omega
                  have hz2 : (k : Int) < (N : Int) := by omega
                  clear HP
                  go_wp2_with fail
                  have HX1 : Hid (Stx w.heap.size A bx (bx + 1) N B M Q w (wr.alloc (.cells #[] 40))) := HX.out.alloc _
                  have HR1 : Hid ((wr.alloc (.cells #[] 40)).rowIs (bx + 1 + 1) 32 (N * 2) (entF A N)) := HR.out.alloc _
                  generalize wr.alloc (.cells #[] 40) = V at *
                  clear hl1 hl2 hl3 hc1 hc2 HX HR
                  generalize wr.heap.size = gs at *
                  clear wr
                  obtain ⟨hd1, hd2⟩ := row_cells HR1.out hlt
                  go_loopw [20, 21, 22] (fun a b j wx => ∃ u : Nat, u ≤ k ∧ j = .int .i64 u ∧ a = .bool (!seenN A k u) ∧ b = .bool (!seenP A k u) ∧ ∃ q, wx = V.drewN q) (fun _ _ j _ => k - (intOf j).toNat)
                  case atStart => exact ⟨0, Nat.zero_le _, rfl, rfl, rfl, 0, rfl⟩
                  case round =>
                    obtain ⟨u, hu, rfl, rfl, rfl, q, rfl⟩ := hrel
                    by_cases hlu : u < k
                    · obtain ⟨hc1, hc2⟩ := row_cells HR1.out (Nat.lt_trans hlu hlt)
                      have SN : Hid (seenN A k (u + 1) = (seenN A k u || sameS (eN A u) (eN A k))) := rfl
                      have SP : Hid (seenP A k (u + 1) = (seenP A k u || (sameS (eN A u) (eN A k) && (eI A u == eI A k)))) := rfl
                      have hy1 : (0 : Int) ≤ (u : Int) := by omega
                      have hy2 : (u : Int) < (N : Int) := by omega
                      generalize eN A u = xu at *
                      generalize eI A u = yu at *
                      generalize eN A k = xk at *
                      generalize eI A k = yk at *
                      generalize seenN A k u = sn at *
                      generalize seenP A k u = sp at *
                      clear HX1 HR1
                      cases he : (xu.toList == xk.toList) with
                      | false =>
                        have e1 : Hid (sameS xu xk = false) := he
                        go_wp2
                        go_quiet (fail)
                        go_wp2
                        go_roundw
                        case rel => exact ⟨u + 1, by omega, by go_num, by rw [SN.out, e1.out, Bool.or_false], by rw [SP.out, e1.out, Bool.false_and, Bool.or_false], _, rfl⟩
                        case measure => simp [intOf]; omega
                      | true =>
                        have e1 : Hid (sameS xu xk = true) := he
                        cases hf : (yu == yk) with
                        | false =>
                          have e2 : Hid ((yu == yk) = false) := hf
                          go_wp2
                          go_quiet (fail)
                          go_wp2
                          go_quiet (fail)
                          go_wp2
                          go_roundw
                          case rel => exact ⟨u + 1, by omega, by go_num, by rw [SN.out, e1.out, Bool.or_true]; rfl, by rw [SP.out, e1.out, e2.out, Bool.true_and, Bool.or_false], _, rfl⟩
                          case measure => simp [intOf]; omega
                        | true =>
                          have e2 : Hid ((yu == yk) = true) := hf
                          go_wp2
                          go_quiet (fail)
                          go_wp2
                          go_quiet (fail)
                          go_wp2
                          go_roundw
                          case rel => exact ⟨u + 1, by omega, by go_num, by rw [SN.out, e1.out, Bool.or_true]; rfl, by rw [SP.out, e1.out, e2.out, Bool.true_and, Bool.or_true]; rfl, _, rfl⟩
                          case measure => simp [intOf]; omega
                    · obtain rfl : u = k := by omega
                      have HXq : Hid (Stx w.heap.size A bx (bx + 1) N B M Q w (V.drewN q)) := HX1.out.drewN q
                      have HRq : Hid ((V.drewN q).rowIs (bx + 1 + 1) 32 (N * 2) (entF A N)) := HR1.out
                      have SN : Hid (nmC A (u + 1) = if seenN A u u then nmC A u else nmC A u + 1) := rfl
                      have SZ : Hid (szC A M (u + 1) = if seenN A u u then szC A M u else szC A M u + cnt M (eN A u)) := rfl
                      have SP : Hid (prC A (u + 1) = if seenP A u u then prC A u else prC A u + 1) := rfl
                      obtain ⟨m2, hl1, hlen⟩ := len_fin HXq.out (eN A u)
                      have b4 := cnt_le M (eN A u)
                      generalize cnt M (eN A u) = ce at *
                      generalize eN A u = xu at *
                      generalize seenN A u u = sn at *
                      generalize seenP A u u = sp at *
                      generalize nmC A u = c1 at *
                      generalize prC A u = c2 at *
                      generalize szC A M u = c3 at *
                      clear HX1 HR1 hd2
                      cases sn with
                      | true =>
                        clear hl1 hlen
                        cases sp with
                        | true =>
                          go_wp2
                          go_roundw
                          case rel => exact ⟨u + 1, by omega, by go_num, by rw [SN.out]; rfl, by rw [SP.out]; rfl, by rw [SZ.out]; rfl, HXq.out, HRq.out⟩
                          case measure => simp [intOf]; omega
                        | false =>
                          go_wp2
                          go_roundw
                          case rel => exact ⟨u + 1, by omega, by go_num, by rw [SN.out]; rfl, by rw [SP.out, if_neg (by simp)]; go_num, by rw [SZ.out]; rfl, HXq.out, HRq.out⟩
                          case measure => simp [intOf]; omega
                      | false =>
                        cases sp with
                        | true =>
                          go_wp2
                          go_roundw
                          case rel => exact ⟨u + 1, by omega, by go_num, by rw [SN.out, if_neg (by simp)]; go_num, by rw [SP.out]; rfl, by rw [SZ.out, if_neg (by simp)]; go_num, HXq.out, HRq.out⟩
                          case measure => simp [intOf]; omega
                        | false =>
                          go_wp2
                          go_roundw
                          case rel => exact ⟨u + 1, by omega, by go_num, by rw [SN.out, if_neg (by simp)]; go_num, by rw [SP.out, if_neg (by simp)]; go_num, by rw [SZ.out, if_neg (by simp)]; go_num, HXq.out, HRq.out⟩
                          case measure => simp [intOf]; omega
                · obtain rfl : k = N := by omega
                  have hlen := fun ty => HX.out.idx.len ty
                  have HB : Hid (YesPost w (.returned (.bool true)) wr) := ⟨rfl, HX.out.bel⟩
                  rw [HP.out.1, HP.out.2]
                  clear HP HX HR b1 b2 b3
                  generalize dn M = d1 at *
                  generalize prC A k = d2 at *
                  go_wp2
                  go_ret
                  exact HB.out
end Go.Proofs.Qxb6608970aMods
