import Derived.Test.Qxb6608970aModsFla
namespace Go.Proofs.Qxb6608970aMods
open Go.RowKit
set_option linter.unusedVariables false
set_option maxRecDepth 100000

def Yes8 (w : World) (e : Ending) (w' : World) : Prop := e = .returned (.bool true) ∧ Below w.heap.size w w'

theorem strs_of_clone {w1 w2 : World} {a' : Option Addr} {m : Nat} {ch : List Str} (h : 0 < m → ∃ b, a' = some ⟨b, 0, none⟩ ∧ w1.heap.size ≤ b ∧ w2.rowIs b 9 m (strF ch m)) (hl : ch.length = m) (hm : m ≤ 1048576) (hs : ∀ k, k < m → (nm ch k).size ≤ 1048576) : Strs w2.heap.size w2 a' m ch := by
  refine ⟨hl, by unfold maxLen; omega, fun h0 => ?_, fun i hi => by have := hs i hi; unfold maxLen; omega⟩
  obtain ⟨b, e, _, hr⟩ := h h0
  refine ⟨b, 0, e, hr.lt, fun i hi => ?_⟩
  have := hr.cell hi
  unfold strF at this
  rw [if_pos hi] at this
  simpa using this

theorem infoP : (Trym.prog.info? 38).map (fun i => (i.zero, i.size, i.bytes)) = some (some (.pointer none), 1, 8) := by kernel_rfl
theorem infoI : (Trym.prog.info? 3).map (fun i => (i.zero, i.size, i.bytes)) = some (some (.int .i64 0), 1, 8) := by kernel_rfl

/-- Behind the making of a watch in round k. -/
def Nxt23 (O : OthL) (n M br bc hb bo k b o : Nat) (P : Nat → Nat) (L1 L2 : PairsL) (x : Str) (a : Option Addr) (l c : Nat) (w2 : World) (e : Ending) (w1 : World) : Prop :=
  ∃ pb, e = .returned (.pointer (some ⟨pb, 0, none⟩)) ∧ w1.cell? ⟨b, o + k * 2, none⟩ = some (.string x) ∧ w1.cell? ⟨b, o + k * 2 + 1, none⟩ = some (.slice a l c) ∧ (∃ v, w1.cell? ⟨bo, k, none⟩ = some v) ∧ w1.frozen? ⟨bo, k, none⟩ = false ∧
    Hid (Fil O n M br bc hb bo (k + 1) k (updP P k pb) L1 L2 w2 (w1.setCell ⟨bo, k, none⟩ (.pointer (some ⟨pb, 0, none⟩))))

theorem nxt23 {O : OthL} {n M br bc hb bo k b o : Nat} {P : Nat → Nat} {L1 L2 : PairsL} {x : Str} {a : Option Addr} {l c : Nat} {w2 wr : World} (h : Fil O n M br bc hb bo k k P L1 L2 w2 wr) (hk : k < n) (hbM : b < M)
    (h1 : wr.cell? ⟨b, o + k * 2, none⟩ = some (.string x)) (h2 : wr.cell? ⟨b, o + k * 2 + 1, none⟩ = some (.slice a l c)) : Calls Trym.prog 23 #[.string x, .slice a l c] wr.drew (Nxt23 O n M br bc hb bo k b o P L1 L2 x a l c w2) := by
  refine (new23 x a l c wr.drew).mono ?_
  rintro e w1 ⟨rfl, rfl⟩
  have hd := h.drew
  have hM := h.t2.hM
  have hlt : b < wr.drew.heap.size := Nat.lt_of_lt_of_le hbM hM
  have e1 : ∀ q, (wr.drew.alloc (.cells (watchCells x a l c false) 73)).cell? ⟨b, q, none⟩ = wr.drew.cell? ⟨b, q, none⟩ := fun q => World.cell?_of_block (a := ⟨b, q, none⟩) (Below.heap_alloc _ _ _ hlt)
  have hr := hd.row.alloc (.cells (watchCells x a l c false) 73)
  exact ⟨_, rfl, (e1 _).trans h1, (e1 _).trans h2, ⟨_, hr.cell hk⟩, hr.frozen k, fil_new hd hk x a l c⟩

/-- Behind the entering of watch k. -/
def Nxt24 (O : OthL) (n M br bc hb bo k b o pk : Nat) (P : Nat → Nat) (x : Str) (a : Option Addr) (l c : Nat) (w2 : World) (e : Ending) (w1 : World) : Prop :=
  e = .returned (.tuple #[]) ∧ w1.cell? ⟨b, o + k * 2, none⟩ = some (.string x) ∧ w1.cell? ⟨b, o + k * 2 + 1, none⟩ = some (.slice a l c) ∧ w1.cell? ⟨bo, k, none⟩ = some (.pointer (some ⟨pk, 0, none⟩)) ∧
    Hid (∃ L1 L2, Fil O n M br bc hb bo (k + 1) (k + 1) P L1 L2 w2 w1)

theorem fil_ptr {O : OthL} {n M br bc hb bo k km j : Nat} {P : Nat → Nat} {L1 L2 : PairsL} {w2 wr : World} (h : Fil O n M br bc hb bo k km P L1 L2 w2 wr) (hj : j < k) (hk : k ≤ n) : wr.cell? ⟨bo, j, none⟩ = some (.pointer (some ⟨P j, 0, none⟩)) := by
  have := h.row.cell (i := j) (by omega)
  unfold owF at this
  rw [if_pos hj] at this
  exact this

theorem nxt24 {O : OthL} {n M br bc hb bo k b o pk : Nat} {P : Nat → Nat} {L1 L2 : PairsL} {a : Option Addr} {l c : Nat} {w2 wr : World} (h : Fil O n M br bc hb bo (k + 1) k P L1 L2 w2 wr) (hk : k < n) (hbM : b < M)
    (h1 : wr.cell? ⟨b, o + k * 2, none⟩ = some (.string (rN O k))) (h2 : wr.cell? ⟨b, o + k * 2 + 1, none⟩ = some (.slice a l c)) (hS : Strs M wr a l (cN O k)) (hl : l ≤ 1048576) (ep : P k = pk) :
    Calls Trym.prog 24 #[.map (some br), .map (some bc), .pointer (some ⟨pk, 0, none⟩), .string (rN O k), .slice a l c] wr.drew (Nxt24 O n M br bc hb bo k b o pk P (rN O k) a l c w2) := by
  subst ep
  have hd := h.drew
  have hS2 : Strs M wr.drew a l (cN O k) := hS.below ⟨rfl, rfl, rfl, Nat.le_refl _, fun _ _ => rfl⟩
  refine (enter24 M br bc L1 L2 (rN O k) (P k) a l c (cN O k) wr.drew hd.t2 (hd.wat k (by omega)).1 hS2 hl).mono ?_
  intro e w1 hp
  have hl2 := hS.len
  have hp2 := hp
  rw [← hl2] at hp2
  have hf := fil_enter hd hp2
  obtain ⟨rfl, ht, hkc, hbe⟩ := hp
  exact ⟨rfl, (hbe.cell (p := ⟨b, o + k * 2, none⟩) hbM).trans h1, (hbe.cell (p := ⟨b, o + k * 2 + 1, none⟩) hbM).trans h2, fil_ptr hf (by omega) (by omega), _, _, hf⟩

theorem strs_again {M n t b o lk ck : Nat} {O : OthL} {w V : World} {ak : Option Addr} (h : Oth M w (some ⟨b, o, none⟩) n O) (hb : Below M w V) (ht : t < n) (hc : V.cell? ⟨b, o + t * 2 + 1, none⟩ = some (.slice ak lk ck)) : Strs M V ak lk (cN O t) := by
  obtain ⟨b', o', e, _, R⟩ := (h.below hb).row (by omega)
  cases e
  obtain ⟨a, l, c, h1, h2, _⟩ := (R t ht).c1
  rw [hc] at h1
  cases h1
  exact h2

theorem Watch.keep {w w' : World} {p : Nat} {s : Str} {a : Option Addr} {m c : Nat} {q : Bool} (h : Watch w p s a m c q) (e : w'.heap[p]? = w.heap[p]?) : Watch w' p s a m c q := by
  obtain ⟨⟨x, t, hx⟩, h0, h1, h3, hf⟩ := h
  exact ⟨⟨x, t, e.trans hx⟩, (World.cell?_of_block (a := ⟨p, 0, none⟩) e).trans h0, (World.cell?_of_block (a := ⟨p, 1, none⟩) e).trans h1, (World.cell?_of_block (a := ⟨p, 3, none⟩) e).trans h3, fun o => (World.frozen?_of_block (a := ⟨p, o, none⟩) e).trans (hf o)⟩

/-- Behind 'if added': the lists hold the others, and at most the watch pw besides. -/
def Ent8 (M br bc pw : Nat) (rd : Str) (ch : List Str) (k : Nat) (L1 L2 : PairsL) (w1 wc : World) : Prop :=
  ∃ L1a L2a, T2 M br bc L1a L2a wc ∧ (∀ q, q ∈ L1a → q ∈ L1 ∨ q = (rd, pw)) ∧ (∀ q, q ∈ L1 → q ∈ L1a) ∧ (∀ q, q ∈ L2a → q ∈ L2 ∨ ∃ i, i < k ∧ q = (nm ch i, pw)) ∧ (∀ q, q ∈ L2 → q ∈ L2a) ∧ KeepC w1 wc ∧ Below M w1 wc
theorem ent8_no {M br bc pw : Nat} {rd : Str} {ch : List Str} {k : Nat} {L1 L2 : PairsL} {w1 : World} (h : T2 M br bc L1 L2 w1) : Ent8 M br bc pw rd ch k L1 L2 w1 w1 :=
  ⟨L1, L2, h, fun q h => .inl h, fun q h => h, fun q h => .inl h, fun q h => h, KeepC.refl _, Below.refl _ _⟩
theorem ent8_yes {M br bc pw : Nat} {rd : Str} {ch : List Str} {k : Nat} {L1 L2 : PairsL} {w1 w' : World} {e : Ending} (h : IPost M br bc (addP L1 (rd, pw)) (addAll L2 ch pw k) w1 e w') : Ent8 M br bc pw rd ch k L1 L2 w1 w' := by
  obtain ⟨_, h1, h2, h3⟩ := h
  refine ⟨_, _, h1, fun q h => ?_, fun q h => mem_addP.2 (.inr h), fun q h => mem_addAll.1 h, fun q h => mem_addAll.2 (.inl h), h2, h3⟩
  rcases mem_addP.1 h with h | h
  · exact .inr h
  · exact .inl h

/-- Behind the drop. -/
theorem drop8 {O : OthL} {n M br bc hb bo pw : Nat} {rd : Str} {ch : List Str} {k : Nat} {P : Nat → Nat} {L1 L2 : PairsL} {w2 w1 wc : World} {a : Option Addr} (hf : Fil O n M br bc hb bo n n P L1 L2 w2 w1) (hpw : ∀ i, i < n → P i ≠ pw) (hbw : bo < pw) (hW : Watch w1 pw rd a k k false) (hS : Strs M w2 a k ch) (hk : k ≤ 1048576)
    (he : Ent8 M br bc pw rd ch k L1 L2 w1 wc) : Calls Trym.prog 25 #[.pointer (some ⟨hb, 0, none⟩), .pointer (some ⟨pw, 0, none⟩)] wc (fun e W => e = .returned (.tuple #[]) ∧ ∃ M1 M2, Fin8 O n M br bc hb bo pw rd ch k P M1 M2 w2 W) := by
  obtain ⟨L1a, L2a, t, g1, g2, g3, g4, g5, g6⟩ := he
  have hlo := hf.lo
  refine (drop25 M br bc hb pw L1a L2a rd a k k false ch wc t (hW.keep (g5 pw hW.blk)) (hf.hub.keep (g5 hb hf.hub.blk)) (by omega) (show M ≤ pw by omega) (hS.below (hf.bel.trans g6)) hk).mono ?_
  intro e W hd
  exact ⟨hd.1, _, _, fin_of hf hpw hbw hd g1 g2 g3 g4 g5 g6⟩

theorem T2.look1 {M br bc : Nat} {L1 L2 : PairsL} {w : World} (h : T2 M br bc L1 L2 w) (s : Str) : ∃ m, (Instr.lookup 35 (.map (some br)) (.string s) false).run Trym.prog w = .ok (.map m) w ∧
    (∀ p, CellB w p → (Instr.lookup 42 (.map m) (.pointer (some ⟨p, 0, none⟩)) true).run Trym.prog w = .ok (.tuple #[.agg #[], .bool (decide ((s, p) ∈ L1))]) w) ∧ ∀ ty, (Builtin.len_ #[42] ty #[.map m]).run Trym.prog w = .ok (.int .i64 (cnt L1 s)) w := by
  obtain ⟨B1, B2, h⟩ := h
  exact ⟨B1 s, h.i1.look s, fun p hp => h.i1.look2 s hp, fun ty => h.i1.len2 s ty⟩
theorem T2.look2 {M br bc : Nat} {L1 L2 : PairsL} {w : World} (h : T2 M br bc L1 L2 w) (s : Str) : ∃ m, (Instr.lookup 35 (.map (some bc)) (.string s) false).run Trym.prog w = .ok (.map m) w ∧
    (∀ p, CellB w p → (Instr.lookup 42 (.map m) (.pointer (some ⟨p, 0, none⟩)) true).run Trym.prog w = .ok (.tuple #[.agg #[], .bool (decide ((s, p) ∈ L2))]) w) ∧ ∀ ty, (Builtin.len_ #[42] ty #[.map m]).run Trym.prog w = .ok (.int .i64 (cnt L2 s)) w := by
  obtain ⟨B1, B2, h⟩ := h
  exact ⟨B2 s, h.i2.look s, fun p hp => h.i2.look2 s hp, fun ty => h.i2.len2 s ty⟩
/-- The look-ups of '_, ok := br[s][p]' where the order is drawn: ahead of the making of the blank's block, or behind it. -/
theorem look_drawn {M bx : Nat} {B : Str → Option Nat} {L : PairsL} {w : World} (h : Idx M w bx B L) (s : Str) {p : Nat} (hp : CellB w p) (hin : (s, p) ∈ L) : ∃ m,
    (Instr.lookup 35 (.map (some bx)) (.string s) false).run Trym.prog w.drew = .ok (.map m) w.drew ∧ (Instr.lookup 35 (.map (some bx)) (.string s) false).run Trym.prog (w.alloc (.cells #[] 40)).drew = .ok (.map m) (w.alloc (.cells #[] 40)).drew ∧
    (Instr.lookup 42 (.map m) (.pointer (some ⟨p, 0, none⟩)) true).run Trym.prog w.drew = .ok (.tuple #[.agg #[], .bool true]) w.drew ∧
    (Instr.lookup 42 (.map m) (.pointer (some ⟨p, 0, none⟩)) true).run Trym.prog (w.alloc (.cells #[] 40)).drew = .ok (.tuple #[.agg #[], .bool true]) (w.alloc (.cells #[] 40)).drew := by
  have f := Frm.drew w (fun _ => False)
  have g : Frm w.drew (w.alloc (.cells #[] 40)).drew (fun _ => False) := by
    have g0 := Frm.alloc w (.cells #[] 40) (fun _ => False)
    exact ⟨g0.os, g0.tape, g0.output, g0.size, g0.block⟩
  have h1 : Idx M w.drew bx B L := h.frm f (fun _ _ h => h) (fun q hq => (h.dom q hq).frm f (fun h => h))
  have h2 : Idx M (w.alloc (.cells #[] 40)).drew bx B L := h1.frm g (fun _ _ h => h) (fun q hq => (h1.dom q hq).frm g (fun h => h))
  have p1 : CellB w.drew p := hp.frm f (fun h => h)
  have p2 : CellB (w.alloc (.cells #[] 40)).drew p := p1.frm g (fun h => h)
  have e1 := h1.look2 s p1
  have e2 := h2.look2 s p2
  rw [decide_eq_true hin] at e1 e2
  exact ⟨B s, h1.look s, h2.look s, e1, e2⟩

theorem T2.len1 {M br bc : Nat} {L1 L2 : PairsL} {w : World} (h : T2 M br bc L1 L2 w) (ty : TypeId) : (Builtin.len_ #[35] ty #[.map (some br)]).run Trym.prog w = .ok (.int .i64 (dn L1)) w := by
  obtain ⟨B1, B2, h⟩ := h; exact h.i1.len ty
theorem T2.len2 {M br bc : Nat} {L1 L2 : PairsL} {w : World} (h : T2 M br bc L1 L2 w) (ty : TypeId) : (Builtin.len_ #[35] ty #[.map (some bc)]).run Trym.prog w = .ok (.int .i64 (dn L2)) w := by
  obtain ⟨B1, B2, h⟩ := h; exact h.i2.len ty
theorem T2.nodup {M br bc : Nat} {L1 L2 : PairsL} {w : World} (h : T2 M br bc L1 L2 w) : L1.Nodup ∧ L2.Nodup := by
  obtain ⟨B1, B2, h⟩ := h; exact ⟨h.i1.nodup, h.i2.nodup⟩

theorem keep1 {w1 : World} {b bs o o1 : Nat} {u1 v : Value} (hne : b ≠ bs) (h : w1.cell? ⟨b, o, none⟩ = some v) : (w1.setCell ⟨bs, o1, none⟩ u1).cell? ⟨b, o, none⟩ = some v := by
  rw [World.cell?_of_block (a := ⟨b, o, none⟩) (Below.heap_setCell _ _ _ _ hne)]
  exact h

set_option maxHeartbeats 8000000 in
theorem main8 (a0 a2 : Option Addr) (n c0 m c2 : Nat) (O : OthL) (rd : Str) (ch : List Str) (added : Bool) (w : World) (r0 : Hid (Oth w.heap.size w a0 n O)) (hs : rd.size ≤ maxLen) (r2 : Hid (Strs w.heap.size w a2 m ch)) (hc0 : a0 = none → n = 0 ∧ c0 = 0) (hc2 : a2 = none → m = 0 ∧ c2 = 0) :
    Calls Trym.prog 8 #[.slice a0 n c0, .string rd, .slice a2 m c2, .bool added] w (Yes8 w) := by
  have m0 := r0.out.max
  have m2 := r2.out.max
  have HC17 : Hid (Calls Trym.prog 17 #[.slice a0 n c0, .string rd, .slice a2 m c2, .bool added] w (BytesPost8 O n rd ch m w)) := bytes17 a0 a2 n c0 m c2 O rd ch added w r0 hs r2
  have HN : Hid ((a0 = none → n = 0 ∧ c0 = 0) ∧ (a2 = none → m = 0 ∧ c2 = 0)) := ⟨hc0, hc2⟩
  clear hc0 hc2
  unfold maxLen at m0 m2
  have YES : Hid (Yes8 w (.returned (.bool true)) w) := ⟨rfl, Below.refl _ _⟩
  go_enter Trym.func8, Trym.ntmps8
  go_wp2_with fail
  refine HC17.out.mono ?_
  rintro e w1 ⟨q, rfl, hsh, hw1⟩
  rw [hw1]
  clear hw1 w1 HC17
  cases q with
  | false =>
    clear hsh
    go_wp2_with fail
    go_ret
    exact YES.out
  | true =>
    have HSH : Hid (Short8 O n rd ch m) := hsh rfl
    have hs1 := HSH.out.2.2.1
    clear hsh hs m0 m2
    by_cases h4 : 4096 < n
    · have := HSH.out.1
      go_wp2_with fail
      go_ret
      exact YES.out
    · by_cases h5 : 4096 < m
      · have := HSH.out.2.2.2.1
        go_wp2_with fail
        go_ret
        exact YES.out
      · go_wp2_with fail
        go_loop [9, 10] (fun t i => ∃ (k T : Nat), k ≤ m ∧ T ≤ 1048576 ∧ i = .int .i64 k ∧ t = .int .i64 T) (fun _ i => m - (intOf i).toNat)
        case atStart => exact ⟨0, rd.size, Nat.zero_le _, hs1, rfl, rfl⟩
        case round =>
          obtain ⟨k, T, hk, hT, rfl, rfl⟩ := hrel
          by_cases hlt : k < m
          · obtain ⟨b, o, rfl, _, R⟩ := r2.out.row (by omega)
            have hcx := R k hlt
            have hsx := HSH.out.2.2.2.2 k hlt
            clear R
            generalize nm ch k = x at *
            by_cases h2 : 1048576 < T + (16 + x.size)
            · go_wp2
              go_ret
              exact YES.out
            · go_wp2
              go_round
              case rel => exact ⟨k + 1, T + (16 + x.size), by omega, by omega, by go_num, by go_num⟩
              case measure => simp [intOf]; omega
          · obtain rfl : k = m := by omega
            go_wp2_with fail
            go_loop [9, 11, 12] (fun t u i => ∃ (j T : Nat), j ≤ n ∧ T ≤ 1048576 ∧ offs O j ≤ 4096 ∧ i = .int .i64 j ∧ u = .int .i64 (offs O j) ∧ t = .int .i64 T) (fun _ _ i => n - (intOf i).toNat)
            case atStart => exact ⟨0, T, Nat.zero_le _, hT, Nat.zero_le _, rfl, rfl, rfl⟩
            case round =>
              obtain ⟨j, TT, hj, hTT, ho, rfl, rfl, rfl⟩ := hrel
              by_cases hjl : j < n
              · as_aux_lemma =>
                obtain ⟨b, o, rfl, _, R⟩ := r0.out.row (by omega)
                have hcx := (R j hjl).c0
                obtain ⟨ak, lk, ck, hcy, HS, _⟩ := (R j hjl).c1
                have hsx := (HSH.out.2.1 j hjl).1
                have hll := HS.len
                have hsl : lk ≤ 1048576 := by rw [← hll]; exact (HSH.out.2.1 j hjl).2.1
                have HSZ : Hid (∀ v, v < lk → (nm (cN O j) v).size ≤ 1048576) := by rw [← hll]; exact (HSH.out.2.1 j hjl).2.2
                have HSK : Hid (Strs w.heap.size w ak lk (cN O j)) := HS
                have HOF : Hid (offs O (j + 1) = offs O j + lk) := by rw [← hll]; exact offs_succ O j
                clear R HS hll
                generalize rN O j = x at *
                generalize cN O j = C at *
                generalize offs O j = oj at *
                by_cases h6 : 1048576 < TT + (40 + x.size)
                · go_wp2
                  go_ret
                  exact YES.out
                · by_cases h7 : 4096 < oj + lk
                  · go_wp2
                    go_ret
                    exact YES.out
                  · go_wp2
                    go_loop [9, 13] (fun t i => ∃ (v U : Nat), v ≤ lk ∧ U ≤ 1048576 ∧ i = .int .i64 v ∧ t = .int .i64 U) (fun _ i => lk - (intOf i).toNat)
                    case atStart => exact ⟨0, TT + (40 + x.size), Nat.zero_le _, by omega, rfl, by go_num⟩
                    case round =>
                      obtain ⟨v, U, hv, hU, rfl, rfl⟩ := hrel
                      by_cases hvl : v < lk
                      · obtain ⟨b2, o2, rfl, _, R2⟩ := HSK.out.row (by omega)
                        have hcz := R2 v hvl
                        have hsz := HSZ.out v hvl
                        clear R2
                        generalize nm C v = y at *
                        by_cases h8 : 1048576 < U + (16 + y.size)
                        · go_wp2
                          go_ret
                          exact YES.out
                        · go_wp2
                          go_round
                          case rel => exact ⟨v + 1, U + (16 + y.size), by omega, by omega, by go_num, by go_num⟩
                          case measure => simp [intOf]; omega
                      · obtain rfl : v = lk := by omega
                        go_wp2
                        go_round
                        case rel => exact ⟨j + 1, U, by omega, hU, by rw [HOF.out]; omega, by go_num, by rw [HOF.out]; go_num, rfl⟩
                        case measure => simp [intOf]; omega
              · as_aux_lemma =>
                obtain rfl : j = n := by omega
                have C18 : Hid (Calls Trym.prog 18 #[.slice a0 j c0] w (CloneO j O w)) := clone18 a0 j c0 O w HSH.out.1 r0.out HSH.out.2.1 HN.out.1
                clear YES hjl hTT hT hlt
                go_wp2_with fail
                refine C18.out.mono ?_
                rintro e w1 ⟨a0', rfl, hoth, hb1⟩
                have HO1 : Hid (Oth w1.heap.size w1 a0' j O) := hoth
                have HB1 : Hid (Below w.heap.size w w1) := hb1
                have C19 : Hid (Calls Trym.prog 19 #[.slice a2 k c2] w1 (CloneS k ch w1)) := clone19 a2 k c2 ch w1 HSH.out.2.2.2.1 ((r2.out.below hb1).mono hb1.size) HN.out.2
                have HLN : Hid (ch.length = k) := r2.out.len
                clear hoth hb1 C18 r0 r2 HN
                go_wp2_with fail
                refine C19.out.mono ?_
                rintro e w2 ⟨a2', rfl, hb2, _, hrow⟩
                have HO : Hid (Oth w2.heap.size w2 a0' j O) := (HO1.out.below hb2).mono hb2.size
                have HS : Hid (Strs w2.heap.size w2 a2' k ch) := strs_of_clone hrow HLN.out HSH.out.2.2.2.1 HSH.out.2.2.2.2
                have HB2 : Hid (Below w.heap.size w w2) := HB1.out.trans (hb2.mono HB1.out.size)
                clear hb2 hrow C19 HO1 HB1 HLN w1
                go_wp2_with fail
                refine (new20 w2).mono ?_
                rintro e w3 ⟨rfl, v0, v1, hw3⟩
                have HF0 := fil_start (O := O) (n := j) (w2 := w2) (fun _ => 0) v0 v1
                have hcc2 : w3.cell? ⟨w2.heap.size + 1 + 1, 2, none⟩ = some (.map (some w2.heap.size)) := by
                  have e2 : ((w2.alloc (.map #[] 0)).alloc (.map #[] 0)).heap.size = w2.heap.size + 1 + 1 := by simp
                  have hb := (MapKept.heap_alloc ((w2.alloc (.map #[] 0)).alloc (.map #[] 0)) (.cells #[v0, v1, .map (some w2.heap.size), .map (some (w2.heap.size + 1))] 69)).1
                  rw [e2, ← hw3] at hb
                  exact cell_of_blk hb rfl
                have hcc3 : w3.cell? ⟨w2.heap.size + 1 + 1, 3, none⟩ = some (.map (some (w2.heap.size + 1))) := by
                  have e2 : ((w2.alloc (.map #[] 0)).alloc (.map #[] 0)).heap.size = w2.heap.size + 1 + 1 := by simp
                  have hb := (MapKept.heap_alloc ((w2.alloc (.map #[] 0)).alloc (.map #[] 0)) (.cells #[v0, v1, .map (some w2.heap.size), .map (some (w2.heap.size + 1))] 69)).1
                  rw [e2, ← hw3] at hb
                  exact cell_of_blk hb rfl
                have hsz3 : w3.heap.size = w2.heap.size + 1 + 1 + 1 := by rw [hw3]; simp
                rw [← hw3] at HF0
                have HF : Hid _ := HF0
                clear hw3 HF0
                have hmk := run_make_row' (P := Trym.prog) 53 38 (.pointer none) 8 Trym.underlying53 infoP rfl .i64 .i64 j (by omega) (by omega) w3
                rw [hsz3] at hmk
                generalize hM : w2.heap.size = M at *
                have HM : Hid (w2.heap.size = M) := hM
                clear hsz3 hM
                go_wp2_with fail
                refine (by21 _ _ _ hcc2).mono ?_
                rintro e w4 ⟨rfl, hw4⟩
                rw [hw4]
                clear hw4 w4
                go_wp2_with fail
                refine (by22 _ _ _ hcc3).mono ?_
                rintro e w4 ⟨rfl, hw4⟩
                rw [hw4]
                clear hw4 w4 hcc2 hcc3
                go_wp2_with fail
                clear hmk HSH hs1
                generalize w3.alloc (.cells (madeCells #[.pointer none] j) 38) = W at *
                go_loopw [18] (fun i wr => ∃ (t : Nat) (P : Nat → Nat) (L1 L2 : PairsL), t ≤ j ∧ i = .int .i64 t ∧ Fil O j M M (M + 1) (M + 1 + 1) (M + 1 + 1 + 1) t t P L1 L2 w2 wr) (fun i _ => j - (intOf i).toNat)
                case atStart => exact ⟨0, _, _, _, Nat.zero_le _, rfl, HF.out⟩
                case round =>
                  clear HF W w3
                  obtain ⟨t, P, L1, L2, ht, rfl, hfil⟩ := hrel
                  have HF : Hid (Fil O j M M (M + 1) (M + 1 + 1) (M + 1 + 1 + 1) t t P L1 L2 w2 wr) := hfil
                  clear hfil
                  by_cases htl : t < j
                  · as_aux_lemma =>
                    obtain ⟨b, o, rfl, hbM, R⟩ := (HO.out.below HF.out.bel).row (by omega)
                    have hc1 := (R t htl).c0
                    obtain ⟨ak, lk, ck, hcy, hst, _⟩ := (R t htl).c1
                    have hll : lk ≤ 4096 := by
                      have e1 := offs_succ O t
                      have e2 := offs_mono O (show t + 1 ≤ j by omega)
                      have e3 := hst.len
                      omega
                    have HST : Hid (Strs M wr ak lk (cN O t)) := hst
                    have HC23 : Hid (Calls Trym.prog 23 #[.string (rN O t), .slice ak lk ck] wr.drew (Nxt23 O j M M (M + 1) (M + 1 + 1) (M + 1 + 1 + 1) t b o P L1 L2 (rN O t) ak lk ck w2)) := nxt23 HF.out htl hbM hc1 hcy
                    have hne : b ≠ M + 1 + 1 + 1 := by omega
                    have hz1 : (0 : Int) ≤ (t : Int) := by omega
                    have hz2 : (t : Int) < (j : Int) := by omega
                    have HX : Hid (∀ w', Below M wr w' → Strs M w' ak lk (cN O t)) := fun w' hb => HST.out.below hb
                    have HBW : Hid (Below M w2 wr) := HF.out.bel
                    have HRT : Hid (∃ x, x = rN O t) := ⟨_, rfl⟩
                    obtain ⟨x, hx⟩ := HRT.out
                    rw [← hx] at hc1 HC23
                    have HXX : Hid (x = rN O t) := hx
                    clear R hst hx HRT HF
                    go_wp2_with fail
                    go_region_held3 (fun w' => w'.cell? ⟨b, o + t * 2, none⟩ = some (.string x) ∧ w'.cell? ⟨b, o + t * 2 + 1, none⟩ = some (.slice ak lk ck)) (first | go_keep | (exact ⟨keep1 hne hk1, keep1 hne hk2⟩))
                      (first | (go_at_call 23; refine HC23.out.mono ?_; rintro e w1 ⟨pb, rfl, hk1, hk2, ⟨v, hk3⟩, hk4, HF1⟩))
                    have hd1 := keep1 (o1 := t) (u1 := .pointer (some ⟨pb, 0, none⟩)) hne hk1
                    have hd2 := keep1 (o1 := t) (u1 := .pointer (some ⟨pb, 0, none⟩)) hne hk2
                    have hd3 := fil_ptr HF1.out (Nat.lt_succ_self t) htl
                    have hPt : updP P t pb t = pb := by unfold updP; rw [if_pos rfl]
                    rw [hPt] at hd3
                    generalize (w1.setCell ⟨M + 1 + 1 + 1, t, none⟩ (.pointer (some ⟨pb, 0, none⟩))) = V at *
                    have HC24 : Hid (Calls Trym.prog 24 #[.map (some M), .map (some (M + 1)), .pointer (some ⟨pb, 0, none⟩), .string x, .slice ak lk ck] V.drew (Nxt24 O j M M (M + 1) (M + 1 + 1) (M + 1 + 1 + 1) t b o pb (updP P t pb) x ak lk ck w2)) := by
                      have e1 := HXX.out
                      subst e1
                      exact nxt24 HF1.out htl hbM hd1 hd2 (strs_again HO.out HF1.out.bel htl hd2) (by omega) hPt
                    clear HC23 hk1 hk2 hk3 hk4 hc1 hcy HX HST HBW HF1 hPt HXX
                    go_wp2_with fail
                    go_region_held3 (fun w' => w'.cell? ⟨b, o + t * 2, none⟩ = some (.string x) ∧ w'.cell? ⟨b, o + t * 2 + 1, none⟩ = some (.slice ak lk ck) ∧ w'.cell? ⟨M + 1 + 1 + 1, t, none⟩ = some (.pointer (some ⟨pb, 0, none⟩))) (go_keep)
                      (first | (go_at_call 24; refine HC24.out.mono ?_; rintro e w5 ⟨rfl, hk1, hk2, hk3, HF2⟩))
                    clear HC24 hk1 hk2 hk3 hd1 hd2 hd3
                    go_wp2_with fail
                    go_roundw
                    case rel =>
                      obtain ⟨L1', L2', hf⟩ := HF2.out
                      exact ⟨t + 1, _, L1', L2', by omega, by go_num, hf⟩
                    case measure => simp [intOf]; omega
                  · as_aux_lemma =>
                    obtain rfl : t = j := by omega
                    have HBO : Hid (M + 1 + 1 + 1 < wr.heap.size) := HF.out.row.lt
                    have HFA : Hid (Fil O t M M (M + 1) (M + 1 + 1) (M + 1 + 1 + 1) t t P L1 L2 w2 (wr.alloc (.cells (watchCells rd a2' k k false) 73))) := HF.out.alloc _
                    have HPW : Hid (∀ i, i < t → P i ≠ wr.heap.size) := fun i hi e => by have := (HF.out.wat i hi).1.lt; omega
                    have HWT : Hid (Watch (wr.alloc (.cells (watchCells rd a2' k k false) 73)) wr.heap.size rd a2' k k false) := by
                      have hb := (MapKept.heap_alloc wr (.cells (watchCells rd a2' k k false) 73)).1
                      exact ⟨⟨_, _, hb⟩, cell_of_blk hb rfl, cell_of_blk hb rfl, cell_of_blk hb rfl, fun o => by unfold World.frozen?; simp only [hb]; simp⟩
                    clear htl HF
                    go_wp2_with fail
                    refine (new23 rd a2' k k wr).mono ?_
                    rintro e w1 ⟨rfl, hw1⟩
                    rw [← hw1] at HFA HWT
                    clear hw1
                    generalize wr.heap.size = pw at *
                    have hbw := HBO.out
                    have hne : M + 1 + 1 ≠ pw := by omega
                    have HMP : Hid (M ≤ pw) := show M ≤ pw by omega
                    clear wr HBO
                    go_upto_if 179 with fail
                    go_cut [185] from 180 to 185 (fun v wc => Hid (Ent8 M M (M + 1) pw rd ch k L1 L2 w1 wc))
                    case first =>
                      cases added with
                      | false =>
                        go_wp2_with fail
                        go_meet
                        case rel => exact ent8_no HFA.out.t2
                      | true =>
                        go_wp2_with fail
                        refine (enter24 M M (M + 1) L1 L2 rd pw a2' k k ch w1 HFA.out.t2 HWT.out.blk (HS.out.below HFA.out.bel) (by omega)).mono ?_
                        intro e w5 hpo
                        have hee : e = .returned (.tuple #[]) := hpo.1
                        have HE : Hid (Ent8 M M (M + 1) pw rd ch k L1 L2 w1 w5) := ent8_yes hpo
                        subst hee
                        clear hpo
                        go_wp2_with fail
                        go_meet
                        case rel => exact HE
                    case rest =>
                    as_aux_lemma =>
                    have HC25 : Hid (Calls Trym.prog 25 #[.pointer (some ⟨M + 1 + 1, 0, none⟩), .pointer (some ⟨pw, 0, none⟩)] wc (fun e W => e = .returned (.tuple #[]) ∧ ∃ M1 M2, Fin8 O t M M (M + 1) (M + 1 + 1) (M + 1 + 1 + 1) pw rd ch k P M1 M2 w2 W)) := drop8 HFA.out HPW.out hbw HWT.out HS.out (by omega) hcut.out
                    clear hcut HFA HPW HWT HMP
                    go_wp2_with fail
                    refine HC25.out.mono ?_
                    rintro e W ⟨rfl, M1, M2, hfin⟩
                    have HFN : Hid (Fin8 O t M M (M + 1) (M + 1 + 1) (M + 1 + 1 + 1) pw rd ch k P M1 M2 w2 W) := hfin
                    have hmark := hfin.mark
                    clear hfin HC25
                    go_wp2_with fail
                    refine (ended26 _ _ _ hmark).mono ?_
                    rintro e w5 ⟨rfl, hw5⟩
                    rw [hw5]
                    clear hw5 w5 hmark
                    obtain ⟨mm, hl1, hl2, _⟩ := HFN.out.fil.t2.look1 rd
                    have hl3 := hl2 pw HFN.out.pwc
                    rw [decide_eq_false HFN.out.out1] at hl3
                    have HFA : Hid (Fin8 O t M M (M + 1) (M + 1 + 1) (M + 1 + 1 + 1) pw rd ch k P M1 M2 w2 (W.alloc (.cells #[] 40))) := HFN.out.alloc _
                    clear hl2 HFN
                    go_wp2_with fail
                    generalize W.alloc (.cells #[] 40) = V at *
                    clear hl1 hl3
                    generalize W.heap.size = gs at *
                    go_loopw [22] (fun i wr => ∃ u : Nat, u ≤ k ∧ i = .int .i64 u ∧ Fin8 O t M M (M + 1) (M + 1 + 1) (M + 1 + 1 + 1) pw rd ch k P M1 M2 w2 wr) (fun i _ => k - (intOf i).toNat)
                    case atStart => exact ⟨0, Nat.zero_le _, rfl, HFA.out⟩
                    case round =>
                      clear HFA V
                      obtain ⟨u, hu, rfl, hfin⟩ := hrel
                      have HFN : Hid (Fin8 O t M M (M + 1) (M + 1 + 1) (M + 1 + 1 + 1) pw rd ch k P M1 M2 w2 wr) := hfin
                      clear hfin
                      by_cases hul : u < k
                      · as_aux_lemma =>
                        obtain ⟨b, o, rfl, hbM, R⟩ := (HS.out.below HFN.out.fil.bel).row (by omega)
                        have hcx := R u hul
                        obtain ⟨mm, hl1, hl2, _⟩ := HFN.out.fil.t2.look2 (nm ch u)
                        have hl3 := hl2 pw HFN.out.pwc
                        rw [decide_eq_false (HFN.out.out2 u hul)] at hl3
                        have HFA : Hid (Fin8 O t M M (M + 1) (M + 1 + 1) (M + 1 + 1 + 1) pw rd ch k P M1 M2 w2 (wr.alloc (.cells #[] 40))) := HFN.out.alloc _
                        have hz1 : (0 : Int) ≤ (u : Int) := by omega
                        have hz2 : (u : Int) < (k : Int) := by omega
                        generalize nm ch u = x at *
                        clear hl2 HFN R
                        go_wp2_with fail
                        generalize wr.alloc (.cells #[] 40) = V at *
                        go_roundw
                        case rel => exact ⟨u + 1, by omega, by go_num, HFA.out⟩
                        case measure => simp [intOf]; omega
                      · as_aux_lemma =>
                        obtain rfl : u = k := by omega
                        have HFL : Hid (Fil O t M M (M + 1) (M + 1 + 1) (M + 1 + 1 + 1) t t P M1 M2 w2 wr) := HFN.out.fil
                        have HP1 : Hid (nmC (A1 O t) t = dn M1 ∧ szC (A1 O t) M1 t = t) := plain_one HFL.out.t2.nodup.1 HFL.out.inj HFL.out.m1
                        have HP2 : Hid (nmC (fl O t) (offs O t) = dn M2 ∧ szC (fl O t) M2 (offs O t) = prC (fl O t) (offs O t)) := plain_two HFL.out.t2.nodup.2 HFL.out.inj HFL.out.m2
                        have hf1 : M1.length ≤ t := len_one HFL.out.t2.nodup.1 HFL.out.m1
                        have hf2 : M2.length ≤ offs O t := len_two HFL.out.t2.nodup.2 HFL.out.m2
                        clear HFN HS hul
                        go_wp2_with fail
                        go_loopw [25, 26, 27] (fun a b i wx => ∃ v : Nat, v ≤ t ∧ i = .int .i64 v ∧ a = .int .i64 (nmC (A1 O t) v) ∧ b = .int .i64 (szC (A1 O t) M1 v) ∧ Fil O t M M (M + 1) (M + 1 + 1) (M + 1 + 1 + 1) t t P M1 M2 w2 wx) (fun _ _ i _ => t - (intOf i).toNat)
                        case atStart => exact ⟨0, Nat.zero_le _, rfl, rfl, rfl, HFL.out⟩
                        case round =>
                          clear HFL
                          obtain ⟨v, hv, rfl, rfl, rfl, hfil⟩ := hrel
                          have HFL : Hid (Fil O t M M (M + 1) (M + 1 + 1) (M + 1 + 1 + 1) t t P M1 M2 w2 wr) := hfil
                          clear hfil
                          have b1 := nmC_le (A1 O t) v
                          have b3 : szC (A1 O t) M1 v ≤ 16785409 := Nat.le_trans (szC_le (A1 O t) M1 v) (Nat.le_trans (Nat.mul_le_mul (show v ≤ 4097 by omega) (show M1.length ≤ 4097 by omega)) (by decide))
                          by_cases hvl : v < t
                          · as_aux_lemma =>
                            obtain ⟨b, o, rfl, hbM, R⟩ := (HO.out.below HFL.out.bel).row (by omega)
                            have hcx := (R v hvl).c0
                            have hcp := fil_ptr HFL.out hvl (Nat.le_refl t)
                            obtain ⟨pc, hce, _⟩ := HFL.out.wat v hvl
                            obtain ⟨mm, hl1, hl2, hl3, hl4⟩ : ∃ m, _ := by
                              obtain ⟨B1, B2, h2⟩ := HFL.out.t2
                              exact look_drawn h2.i1 (rN O v) pc ((HFL.out.m1 _).2 ⟨v, hvl, rfl⟩)
                            have hz1 : (0 : Int) ≤ (v : Int) := by omega
                            have hz2 : (v : Int) < (t : Int) := by omega
                            have hne : b ≠ M + 1 + 1 + 1 := by omega
                            have hbl : b < wr.drew.heap.size := Nat.lt_of_lt_of_le hbM HFL.out.t2.hM
                            have hbo : M + 1 + 1 + 1 < wr.drew.heap.size := HFL.out.row.lt
                            clear R HP1 HP2
                            go_wp2_with fail
                            refine (ended26 _ _ _ hce).mono ?_
                            rintro e w5 ⟨rfl, hw5⟩
                            rw [hw5]
                            clear hw5 w5
                            generalize hPv : P v = pv at *
                            obtain ⟨x, hx⟩ : ∃ x, x = rN O v := ⟨_, rfl⟩
                            rw [← hx] at hcx hl1 hl2
                            have HXX : Hid (x = rN O v) := hx
                            clear hx
                            go_upto_region 63 with fail
                            go_cut [28, 29] from 230 to 244 (fun a b wx => b = .bool true ∧ wx = (wr.alloc (.cells #[] 40)).drew)
                            case first =>
                              go_region_held3 (fun w' => w'.cell? ⟨b, o + v * 2, none⟩ = some (.string x) ∧ w'.cell? ⟨M + 1 + 1 + 1, v, none⟩ = some (.pointer (some ⟨pv, 0, none⟩))) (go_keep) (fail)
                              all_goals (go_wp2_with fail; go_meet; exact ⟨rfl, rfl⟩)
                            case rest =>
                            as_aux_lemma =>
                            obtain ⟨rfl, hwc⟩ := hcut
                            rw [hwc]
                            clear hwc wc hl1 hl2 hl3 hl4 hcp hce pc hPv hbl hbo
                            have HFV : Hid (Fil O t M M (M + 1) (M + 1 + 1) (M + 1 + 1 + 1) t t P M1 M2 w2 (wr.alloc (.cells #[] 40)).drew) := (HFL.out.alloc _).drew
                            generalize (wr.alloc (.cells #[] 40)).drew = V at *
                            clear HFL hcx
                            have HRR : Hid (∀ i, i < t → V.cell? ⟨b, o + i * 2, none⟩ = some (.string (rN O i))) := by
                              intro i hi
                              obtain ⟨b', o', e, _, R⟩ := (HO.out.below HFV.out.bel).row (by omega)
                              cases e
                              exact (R i hi).c0
                            have hcv := HRR.out v hvl
                            rw [← HXX.out] at hcv
                            generalize wr.heap.size = gs2 at *
                            go_wp2_with fail
                            go_loopw [30, 31] (fun f i wx => ∃ u : Nat, u ≤ v ∧ i = .int .i64 u ∧ f = .bool (!seenN (A1 O t) v u) ∧ ∃ q, wx = V.drewN q) (fun _ i _ => v - (intOf i).toNat)
                            case atStart => exact ⟨0, Nat.zero_le _, rfl, rfl, 0, rfl⟩
                            case round =>
                              obtain ⟨y, hy, rfl, rfl, q, rfl⟩ := hrel
                              by_cases hyv : y < v
                              · have hcu := HRR.out y (by omega)
                                have SN : Hid (seenN (A1 O t) v (y + 1) = (seenN (A1 O t) v y || sameS (rN O y) x)) := by
                                  show seenN (A1 O t) v (y + 1) = _
                                  rw [seenN, (A1_at O (show y < t by omega)).1, (A1_at O hvl).1, HXX.out]
                                have hy1 : (0 : Int) ≤ (y : Int) := by omega
                                have hy2 : (y : Int) < (t : Int) := by omega
                                generalize rN O y = xu at *
                                generalize seenN (A1 O t) v y = sn at *
                                clear HFV HRR HXX
                                cases he : (xu.toList == x.toList) with
                                | false =>
                                  have e1 : Hid (sameS xu x = false) := he
                                  go_wp2
                                  go_quiet (fail)
                                  go_wp2
                                  go_roundw
                                  case rel => exact ⟨y + 1, by omega, by go_num, by rw [SN.out, e1.out, Bool.or_false], _, rfl⟩
                                  case measure => simp [intOf]; omega
                                | true =>
                                  have e1 : Hid (sameS xu x = true) := he
                                  go_wp2
                                  go_quiet (fail)
                                  go_wp2
                                  go_roundw
                                  case rel => exact ⟨y + 1, by omega, by go_num, by rw [SN.out, e1.out, Bool.or_true]; rfl, _, rfl⟩
                                  case measure => simp [intOf]; omega
                              · obtain rfl : y = v := by omega
                                have HFQ : Hid (Fil O t M M (M + 1) (M + 1 + 1) (M + 1 + 1 + 1) t t P M1 M2 w2 (V.drewN q)) := HFV.out.drewN q
                                have SN : Hid (nmC (A1 O t) (y + 1) = if seenN (A1 O t) y y then nmC (A1 O t) y else nmC (A1 O t) y + 1) := rfl
                                have SZ : Hid (szC (A1 O t) M1 (y + 1) = if seenN (A1 O t) y y then szC (A1 O t) M1 y else szC (A1 O t) M1 y + cnt M1 x) := by
                                  show szC (A1 O t) M1 (y + 1) = _
                                  rw [szC, (A1_at O hvl).1, HXX.out]
                                obtain ⟨m2, hl1, _, hlen⟩ := HFQ.out.t2.look1 x
                                have b4 := cnt_le M1 x
                                generalize cnt M1 x = ce at *
                                generalize seenN (A1 O t) y y = sn at *
                                generalize nmC (A1 O t) y = c1 at *
                                generalize szC (A1 O t) M1 y = c3 at *
                                clear HFV HRR HXX
                                cases sn with
                                | true =>
                                  clear hl1 hlen
                                  go_wp2
                                  go_roundw
                                  case rel => exact ⟨y + 1, by omega, by go_num, by rw [SN.out]; rfl, by rw [SZ.out]; rfl, HFQ.out⟩
                                  case measure => simp [intOf]; omega
                                | false =>
                                  go_wp2
                                  go_roundw
                                  case rel => exact ⟨y + 1, by omega, by go_num, by rw [SN.out, if_neg (by simp)]; go_num, by rw [SZ.out, if_neg (by simp)]; go_num, HFQ.out⟩
                                  case measure => simp [intOf]; omega
                          · as_aux_lemma =>
                            obtain rfl : v = t := by omega
                            have hlen := fun ty => HFL.out.t2.len1 ty
                            rw [HP1.out.1, HP1.out.2]
                            have hmk1 := run_make_row' (P := Trym.prog) 44 9 (.string ByteArray.empty) 16 Trym.underlying44 info9 rfl .i64 .i64 (offs O v) (by omega) (by omega) wr
                            have hmk2 := run_make_row' (P := Trym.prog) 58 3 (.int .i64 0) 8 Trym.underlying58 infoI rfl .i64 .i64 (offs O v) (by omega) (by omega) (wr.alloc (.cells (madeCells #[.string ByteArray.empty] (offs O v)) 9))
                            have e1 : (wr.alloc (.cells (madeCells #[.string ByteArray.empty] (offs O v)) 9)).heap.size = wr.heap.size + 1 := by simp
                            rw [e1] at hmk2
                            have HA0 := fla_start HFL.out
                            have HA : Hid _ := HA0
                            clear HA0 e1 HP1 HFL b1 b3
                            generalize dn M1 = d1 at *
                            go_wp2_with fail
                            generalize ((wr.alloc (.cells (madeCells #[.string ByteArray.empty] (offs O v)) 9)).alloc (.cells (madeCells #[.int .i64 0] (offs O v)) 3)) = W at *
                            generalize wr.heap.size = bf at *
                            clear hmk1 hmk2 hlen
                            go_loopw [34, 35] (fun a i wx => ∃ y : Nat, y ≤ v ∧ i = .int .i64 y ∧ a = .int .i64 (offs O y) ∧ Fla O v M M (M + 1) (M + 1 + 1) (M + 1 + 1 + 1) bf (bf + 1) (offs O y) P M1 M2 w2 wx) (fun _ i _ => v - (intOf i).toNat)
                            case atStart => exact ⟨0, Nat.zero_le _, rfl, rfl, HA.out⟩
                            case round =>
                              clear HA
                              obtain ⟨y, hy, rfl, rfl, hfla⟩ := hrel
                              have HA : Hid (Fla O v M M (M + 1) (M + 1 + 1) (M + 1 + 1 + 1) bf (bf + 1) (offs O y) P M1 M2 w2 wr) := hfla
                              clear hfla
                              by_cases hyv : y < v
                              · as_aux_lemma =>
                                obtain ⟨b, o, rfl, hbM, R⟩ := HO.out.row (by omega)
                                obtain ⟨ak, lk, ck, hcy2, hst, _⟩ := (R y hyv).c1
                                have hll := hst.len
                                have HOS : Hid (offs O (y + 1) = offs O y + lk) := by rw [← hll]; exact offs_succ O y
                                have hso : offs O y + lk ≤ offs O v := by rw [← HOS.out]; exact offs_mono O (show y + 1 ≤ v by omega)
                                have HSK : Hid (Strs M w2 ak lk (cN O y)) := hst
                                have HCY : Hid (∀ wx, Below M w2 wx → wx.cell? ⟨b, o + y * 2 + 1, none⟩ = some (.slice ak lk ck)) := fun wx hb => by rw [hb.cell (p := ⟨b, o + y * 2 + 1, none⟩) hbM]; exact hcy2
                                have HLL : Hid ((cN O y).length = lk) := hll
                                have hz1 : (0 : Int) ≤ (y : Int) := by omega
                                have hz2 : (y : Int) < (v : Int) := by omega
                                clear R hst hcy2 hll
                                go_wp2_with fail
                                go_loopw [34, 36] (fun a i wx => ∃ z p : Nat, z ≤ lk ∧ i = .int .i64 z ∧ a = .int .i64 p ∧ p = offs O y + z ∧ Fla O v M M (M + 1) (M + 1 + 1) (M + 1 + 1 + 1) bf (bf + 1) p P M1 M2 w2 wx) (fun _ i _ => lk - (intOf i).toNat)
                                case atStart => exact ⟨0, offs O y, Nat.zero_le _, rfl, rfl, rfl, HA.out⟩
                                case round =>
                                  clear HA
                                  obtain ⟨z, p, hz, rfl, rfl, hp, hfla⟩ := hrel
                                  have HA : Hid (Fla O v M M (M + 1) (M + 1 + 1) (M + 1 + 1 + 1) bf (bf + 1) p P M1 M2 w2 wr) := hfla
                                  clear hfla
                                  have hcy := HCY.out wr HA.out.fil.bel
                                  by_cases hzl : z < lk
                                  · as_aux_lemma =>
                                    obtain ⟨b2, o2, rfl, hb2M, R2⟩ := (HSK.out.below HA.out.fil.bel).row (by omega)
                                    have hcz := R2 z hzl
                                    have hpl : p < offs O v := by omega
                                    have hw1 := HA.out.r1.cell hpl
                                    have hf1 := HA.out.r1.frozen p
                                    have hw2 : (wr.setCell ⟨bf, p, none⟩ (.string (nm (cN O y) z))).cell? ⟨bf + 1, p, none⟩ = some (onF (fl O v) p p) := (HA.out.r2.setOther (a := ⟨bf, p, none⟩) (show bf + 1 ≠ bf by omega) _).cell hpl
                                    have hf2 : (wr.setCell ⟨bf, p, none⟩ (.string (nm (cN O y) z))).frozen? ⟨bf + 1, p, none⟩ = false := (HA.out.r2.setOther (a := ⟨bf, p, none⟩) (show bf + 1 ≠ bf by omega) _).frozen p
                                    have HS1 : Hid (Fla O v M M (M + 1) (M + 1 + 1) (M + 1 + 1 + 1) bf (bf + 1) (p + 1) P M1 M2 w2 ((wr.setCell ⟨bf, p, none⟩ (.string (nm (cN O y) z))).setCell ⟨bf + 1, p, none⟩ (.int .i64 (y : Int)))) := by
                                      have h0 := HA.out
                                      rw [hp] at h0 ⊢
                                      exact fla_step h0 hyv (by rw [HLL.out]; exact hzl)
                                    have hq1 : (0 : Int) ≤ (p : Int) := by omega
                                    have hq2 : (p : Int) < (offs O v : Int) := by omega
                                    have hq3 : (0 : Int) ≤ (z : Int) := by omega
                                    have hq4 : (z : Int) < (lk : Int) := by omega
                                    have HPE : Hid (p = offs O y + z) := hp
                                    generalize onF (fl O v) p p = vv at *
                                    generalize flF (fl O v) p p = vw at *
                                    generalize nm (cN O y) z = xs at *
                                    clear R2 HA hp
                                    go_wp2_with fail
                                    generalize ((wr.setCell ⟨bf, p, none⟩ (.string xs)).setCell ⟨bf + 1, p, none⟩ (.int .i64 (y : Int))) = V at *
                                    go_roundw
                                    case rel => exact ⟨z + 1, p + 1, by omega, by go_num, by go_num, by rw [HPE.out]; rfl, HS1.out⟩
                                    case measure => simp [intOf]; omega
                                  · obtain rfl : z = lk := by omega
                                    have HPE : Hid (p = offs O (y + 1)) := by rw [HOS.out]; exact hp
                                    clear hp
                                    go_wp2_with fail
                                    go_roundw
                                    case rel => exact ⟨y + 1, by omega, by go_num, by rw [← HPE.out], by rw [← HPE.out]; exact HA.out⟩
                                    case measure => simp [intOf]; omega
                              · as_aux_lemma =>
                                obtain rfl : y = v := by omega
                                clear HO
                                go_wp2_with fail
                                generalize hE : offs O y = E at *
                                have HEE : Hid (offs O y = E) := hE
                                clear hE
                                go_loopw [37, 38, 39, 40] (fun a c b i wx => ∃ p : Nat, p ≤ E ∧ i = .int .i64 p ∧ a = .int .i64 (nmC (fl O y) p) ∧ b = .int .i64 (prC (fl O y) p) ∧ c = .int .i64 (szC (fl O y) M2 p) ∧ Fla O y M M (M + 1) (M + 1 + 1) (M + 1 + 1 + 1) bf (bf + 1) E P M1 M2 w2 wx) (fun _ _ _ i _ => E - (intOf i).toNat)
                                case atStart => exact ⟨0, Nat.zero_le _, rfl, rfl, rfl, rfl, HA.out⟩
                                case round =>
                                  clear HA
                                  obtain ⟨p, hp, rfl, rfl, rfl, rfl, hfla⟩ := hrel
                                  have HA : Hid (Fla O y M M (M + 1) (M + 1 + 1) (M + 1 + 1 + 1) bf (bf + 1) (offs O y) P M1 M2 w2 wr) := by rw [HEE.out]; exact hfla
                                  clear hfla
                                  have b1 := nmC_le (fl O y) p
                                  have b2 := prC_le (fl O y) p
                                  have b3 : szC (fl O y) M2 p ≤ 16785409 := Nat.le_trans (szC_le (fl O y) M2 p) (Nat.le_trans (Nat.mul_le_mul (show p ≤ 4097 by omega) (show M2.length ≤ 4097 by omega)) (by decide))
                                  by_cases hpl : p < E
                                  · as_aux_lemma =>
                                    have hpo : p < offs O y := by rw [HEE.out]; exact hpl
                                    obtain ⟨hc1, hc2⟩ := HA.out.at1 hpo
                                    obtain ⟨yi, hyi, hei⟩ : ∃ yi : Nat, yi < y ∧ eI (fl O y) p = yi ∧ (eN (fl O y) p, P yi) ∈ M2 := by
                                      obtain ⟨i, z, hi, hz, e⟩ := offs_split O hpo
                                      obtain ⟨g1, g2⟩ := fl_at O hi hz
                                      rw [← e] at g1 g2
                                      exact ⟨i, hi, g2, (HA.out.fil.m2 _).2 ⟨i, hi, z, hz, by rw [g1]⟩⟩
                                    obtain ⟨hei, hmem⟩ := hei
                                    rw [hei] at hc2
                                    have hc3 := fil_ptr HA.out.fil hyi (Nat.le_refl y)
                                    obtain ⟨mm, hl1, hl2, hl3, hl4⟩ : ∃ m, _ := by
                                      obtain ⟨B1, B2, h2⟩ := HA.out.fil.t2
                                      exact look_drawn h2.i2 (eN (fl O y) p) (HA.out.fil.wat yi hyi).1 hmem
                                    have hz1 : (0 : Int) ≤ (p : Int) := by omega
                                    have hz2 : (p : Int) < (E : Int) := by omega
                                    have hz3 : (0 : Int) ≤ (yi : Int) := by omega
                                    have hz4 : (yi : Int) < (y : Int) := by omega
                                    have HFV : Hid (Fla O y M M (M + 1) (M + 1 + 1) (M + 1 + 1 + 1) bf (bf + 1) (offs O y) P M1 M2 w2 (wr.alloc (.cells #[] 40)).drew) := (HA.out.alloc _).drew
                                    obtain ⟨x, hx⟩ : ∃ x, x = eN (fl O y) p := ⟨_, rfl⟩
                                    rw [← hx] at hc1 hl1 hl2
                                    have HXX : Hid (x = eN (fl O y) p) := hx
                                    clear hx HP2 hmem hei HA
                                    generalize P yi = pv at *
                                    go_upto_region 95 with fail
                                    go_cut [41, 42] from 328 to 344 (fun a b wx => b = .bool true ∧ wx = (wr.alloc (.cells #[] 40)).drew)
                                    case first =>
                                      go_region_held3 (fun w' => w'.cell? ⟨bf, p, none⟩ = some (.string x) ∧ w'.cell? ⟨bf + 1, p, none⟩ = some (.int .i64 (yi : Int)) ∧ w'.cell? ⟨M + 1 + 1 + 1, yi, none⟩ = some (.pointer (some ⟨pv, 0, none⟩))) (go_keep) (fail)
                                      all_goals (go_wp2_with fail; go_meet; exact ⟨rfl, rfl⟩)
                                    case rest =>
                                    as_aux_lemma =>
                                    obtain ⟨rfl, hwc⟩ := hcut
                                    rw [hwc]
                                    clear hwc wc hl1 hl2 hl3 hl4 hc1 hc2 hc3
                                    generalize (wr.alloc (.cells #[] 40)).drew = V at *
                                    generalize wr.heap.size = gs3 at *
                                    obtain ⟨hd1, hd2⟩ := HFV.out.at1 hpo
                                    rw [← HXX.out] at hd1
                                    go_wp2_with fail
                                    go_loopw [43, 44, 45] (fun a b j wx => ∃ u : Nat, u ≤ p ∧ j = .int .i64 u ∧ a = .bool (!seenN (fl O y) p u) ∧ b = .bool (!seenP (fl O y) p u) ∧ ∃ q, wx = V.drewN q) (fun _ _ j _ => p - (intOf j).toNat)
                                    case atStart => exact ⟨0, Nat.zero_le _, rfl, rfl, rfl, 0, rfl⟩
                                    case round =>
                                      obtain ⟨u, hu, rfl, rfl, rfl, q, rfl⟩ := hrel
                                      by_cases hlu : u < p
                                      · as_aux_lemma =>
                                        obtain ⟨hc1, hc2⟩ := HFV.out.at1 (show u < offs O y by rw [HEE.out]; omega)
                                        have SN : Hid (seenN (fl O y) p (u + 1) = (seenN (fl O y) p u || sameS (eN (fl O y) u) x)) := by
                                          show seenN (fl O y) p (u + 1) = _
                                          rw [seenN, HXX.out]
                                        have SP : Hid (seenP (fl O y) p (u + 1) = (seenP (fl O y) p u || (sameS (eN (fl O y) u) x && (eI (fl O y) u == eI (fl O y) p)))) := by
                                          show seenP (fl O y) p (u + 1) = _
                                          rw [seenP, HXX.out]
                                        have hy1 : (0 : Int) ≤ (u : Int) := by omega
                                        have hy2 : (u : Int) < (E : Int) := by omega
                                        generalize eN (fl O y) u = xu at *
                                        generalize eI (fl O y) u = yu at *
                                        generalize eI (fl O y) p = yk at *
                                        generalize seenN (fl O y) p u = sn at *
                                        generalize seenP (fl O y) p u = sp at *
                                        clear HFV HXX
                                        cases he : (xu.toList == x.toList) with
                                        | false =>
                                          have e1 : Hid (sameS xu x = false) := he
                                          go_wp2
                                          go_quiet (fail)
                                          go_wp2
                                          go_roundw
                                          case rel => exact ⟨u + 1, by omega, by go_num, by rw [SN.out, e1.out, Bool.or_false], by rw [SP.out, e1.out, Bool.false_and, Bool.or_false], _, rfl⟩
                                          case measure => simp [intOf]; omega
                                        | true =>
                                          have e1 : Hid (sameS xu x = true) := he
                                          cases hf : (yu == yk) with
                                          | false =>
                                            have e2 : Hid ((yu == yk) = false) := hf
                                            go_wp2
                                            go_quiet (fail)
                                            go_wp2
                                            go_quiet (fail)
                                            go_wp2
                                            go_roundw
                                            case rel => exact ⟨u + 1, by omega, by go_num, by rw [SN.out, e1.out, Bool.or_true]; rfl, by rw [SP.out, e1.out, e2.out, Bool.true_and, Bool.or_false], _, rfl⟩
                                            case measure => simp [intOf]; omega
                                          | true =>
                                            have e2 : Hid ((yu == yk) = true) := hf
                                            go_wp2
                                            go_quiet (fail)
                                            go_wp2
                                            go_quiet (fail)
                                            go_wp2
                                            go_roundw
                                            case rel => exact ⟨u + 1, by omega, by go_num, by rw [SN.out, e1.out, Bool.or_true]; rfl, by rw [SP.out, e1.out, e2.out, Bool.true_and, Bool.or_true]; rfl, _, rfl⟩
                                            case measure => simp [intOf]; omega
                                      · as_aux_lemma =>
                                        obtain rfl : u = p := by omega
                                        have HFQ : Hid (Fla O y M M (M + 1) (M + 1 + 1) (M + 1 + 1 + 1) bf (bf + 1) E P M1 M2 w2 (V.drewN q)) := by
                                          have h0 := HFV.out.drewN q
                                          rw [HEE.out] at h0
                                          exact h0
                                        have SN : Hid (nmC (fl O y) (u + 1) = if seenN (fl O y) u u then nmC (fl O y) u else nmC (fl O y) u + 1) := rfl
                                        have SZ : Hid (szC (fl O y) M2 (u + 1) = if seenN (fl O y) u u then szC (fl O y) M2 u else szC (fl O y) M2 u + cnt M2 x) := by
                                          show szC (fl O y) M2 (u + 1) = _
                                          rw [szC, HXX.out]
                                        have SP : Hid (prC (fl O y) (u + 1) = if seenP (fl O y) u u then prC (fl O y) u else prC (fl O y) u + 1) := rfl
                                        obtain ⟨m2, hl1, _, hlen⟩ := HFQ.out.fil.t2.look2 x
                                        have b4 := cnt_le M2 x
                                        generalize cnt M2 x = ce at *
                                        generalize seenN (fl O y) u u = sn at *
                                        generalize seenP (fl O y) u u = sp at *
                                        generalize nmC (fl O y) u = c1 at *
                                        generalize prC (fl O y) u = c4 at *
                                        generalize szC (fl O y) M2 u = c3 at *
                                        clear HFV HXX hd2
                                        cases sn with
                                        | true =>
                                          clear hl1 hlen
                                          cases sp with
                                          | true =>
                                            go_wp2
                                            go_roundw
                                            case rel => exact ⟨u + 1, by omega, by go_num, by rw [SN.out]; rfl, by rw [SP.out]; rfl, by rw [SZ.out]; rfl, HFQ.out⟩
                                            case measure => simp [intOf]; omega
                                          | false =>
                                            go_wp2
                                            go_roundw
                                            case rel => exact ⟨u + 1, by omega, by go_num, by rw [SN.out]; rfl, by rw [SP.out, if_neg (by simp)]; go_num, by rw [SZ.out]; rfl, HFQ.out⟩
                                            case measure => simp [intOf]; omega
                                        | false =>
                                          cases sp with
                                          | true =>
                                            go_wp2
                                            go_roundw
                                            case rel => exact ⟨u + 1, by omega, by go_num, by rw [SN.out, if_neg (by simp)]; go_num, by rw [SP.out]; rfl, by rw [SZ.out, if_neg (by simp)]; go_num, HFQ.out⟩
                                            case measure => simp [intOf]; omega
                                          | false =>
                                            go_wp2
                                            go_roundw
                                            case rel => exact ⟨u + 1, by omega, by go_num, by rw [SN.out, if_neg (by simp)]; go_num, by rw [SP.out, if_neg (by simp)]; go_num, by rw [SZ.out, if_neg (by simp)]; go_num, HFQ.out⟩
                                            case measure => simp [intOf]; omega
                                  · as_aux_lemma =>
                                    obtain rfl : p = E := by omega
                                    have hlen := fun ty => HA.out.fil.t2.len2 ty
                                    have HB : Hid (Yes8 w (.returned (.bool true)) wr) := ⟨rfl, HB2.out.trans (HA.out.fil.bel.mono (by rw [← HM.out]; exact HB2.out.size))⟩
                                    rw [HP2.out.1, HP2.out.2]
                                    clear HP2 HA b1 b2 b3
                                    generalize dn M2 = d3 at *
                                    generalize prC (fl O y) p = d4 at *
                                    go_wp2
                                    go_ret
                                    exact HB.out
end Go.Proofs.Qxb6608970aMods
