import Derived.Test.Qxb6605764aModsTold
namespace Go.Proofs.Qxb6605764aMods
open Go.RowKit
set_option linter.unusedVariables false

theorem told12 (b c : Nat) (S : List Stp) (t : Int) (lb g cap : Nat) (ln : List Int) (sh : Int) (w : World) (hS : Hid (StepsAt w b S)) (h2 : 2 ≤ S.length) (h9 : S.length ≤ 100)
    (hl : Hid (LineAt w lb g cap ln)) (hsh : Hid (Shown ln sh)) (hm2 : ln.length ≤ 2097152) :
    Calls Trym.prog 12 #[.slice (some ⟨b, 0, none⟩) S.length c, .pointer (some ⟨lb, 0, none⟩), .int .i32 ln.length, .int .i64 t] w
      (ToldPost (p3 t sh S S.length (p1 t ln S (S.length - 2) (-1, false))) w) := by
  have C := told17 b c S t lb g cap ln sh w hS h2 h9 hl hsh hm2
  generalize p3 t sh S S.length (p1 t ln S (S.length - 2) (-1, false)) = R at *
  have HC : Hid (Calls Trym.prog 17 #[.slice (some ⟨b, 0, none⟩) S.length c, .pointer (some ⟨lb, 0, none⟩), .int .i32 ln.length, .int .i64 t] w (ToldPost R w)) := C
  clear C
  go_enter Trym.func12, Trym.ntmps12
  go_wp2_with fail
  refine HC.out.mono ?_
  rintro e w' ⟨rfl, n, rfl⟩
  go_wp2_with fail
  go_ret2
  exact ⟨rfl, _, rfl⟩

theorem step10 (f p : Int) (nd : Option Addr) (off cl : Int) (w : World) :
    Calls Trym.prog 10 #[.int .i32 f, .int .i32 p, .pointer nd, .int .i64 off, .int .i64 cl] w fun e w' => e = .returned (.agg #[.int .i32 f, .int .i32 p, .pointer nd, .int .i64 off, .int .i64 cl]) ∧ w' = w.alloc (.cells #[.int .i32 f, .int .i32 p, .pointer nd, .int .i64 off, .int .i64 cl] 31) := by
  go_enter Trym.func10, Trym.ntmps10
  go_wp2
  exact bodyPost_ret (v := .agg #[.int .i32 f, .int .i32 p, .pointer nd, .int .i64 off, .int .i64 cl]) (by simp [results, Trym.results10, go_sem]) rfl ⟨rfl, rfl⟩

theorem node11 (la : Option Addr) (ll lc : Nat) (va : Option Addr) (n vc : Nat) (w : World) :
    Calls Trym.prog 11 #[.slice la ll lc, .slice va n vc] w fun e w' => e = .returned (.pointer (some ⟨w.heap.size, 0, none⟩)) ∧ w' = w.alloc (.cells #[.slice la ll lc, .slice none 0 0, .slice va n vc] 44) := by
  go_enter Trym.func11, Trym.ntmps11
  go_wp2
  go_ret
  exact ⟨rfl, rfl⟩

theorem line13 (la : Option Addr) (ll lc : Nat) (w : World) :
    Calls Trym.prog 13 #[.slice la ll lc] w fun e w' => e = .returned (.pointer (some ⟨w.heap.size, 0, none⟩)) ∧ w' = w.alloc (.cells #[.pointer none, .int .i32 0, .int .i32 0, .int .i32 0, .slice la ll lc] 47) := by
  go_enter Trym.func13, Trym.ntmps13
  go_wp2
  go_ret
  exact ⟨rfl, rfl⟩

theorem lt_of_cell {w : World} {a : Addr} {v : Value} (h : w.cell? a = some v) : a.block < w.heap.size := by
  unfold World.cell? at h
  by_cases hb : a.block < w.heap.size
  · exact hb
  · rw [Array.getElem?_eq_none (by omega)] at h
    cases h

theorem Row.below {k : IntKind} {w w' : World} {a : Option Addr} {zs : List Int} (h : Row k w a zs) (hb : Below w.heap.size w w') : Row k w' a zs := by
  rcases h with h | ⟨b, o, rfl, hc⟩
  · exact .inl h
  · refine .inr ⟨b, o, rfl, fun i hi => ?_⟩
    rw [hb.cell (lt_of_cell (hc i hi))]
    exact hc i hi

theorem clone8_any (a : Option Addr) (c : Nat) (L : List Int) (w : World) (hm : L.length ≤ 1048576) (hR : Row .u8 w a L) (hn : a = none → L = [] ∧ c = 0) :
    Calls Trym.prog 8 #[.slice a L.length c] w (ClonePost .u8 L w) := by
  cases a with
  | none =>
    obtain ⟨rfl, rfl⟩ := hn rfl
    exact clone8_nil w
  | some x =>
    refine clone8_row x c L w hm hR ?_
    show L = [] ∨ _
    rcases hR with h | ⟨b, o, hx, hc⟩
    · exact .inl h
    · cases L with
      | nil => exact .inl rfl
      | cons y L =>
        obtain rfl := Option.some.inj hx
        exact .inr (by simpa using lt_of_cell (hc 0 (by simp)))

theorem clone9_any (a : Option Addr) (c : Nat) (L : List Int) (w : World) (hm : L.length ≤ 1048576) (hR : Row .i64 w a L) (hn : a = none → L = [] ∧ c = 0) :
    Calls Trym.prog 9 #[.slice a L.length c] w (ClonePost .i64 L w) := by
  cases a with
  | none =>
    obtain ⟨rfl, rfl⟩ := hn rfl
    exact clone9_nil w
  | some x =>
    refine clone9_row x c L w hm hR ?_
    show L = [] ∨ _
    rcases hR with h | ⟨b, o, hx, hc⟩
    · exact .inl h
    · cases L with
      | nil => exact .inl rfl
      | cons y L =>
        obtain rfl := Option.some.inj hx
        exact .inr (by simpa using lt_of_cell (hc 0 (by simp)))

def SortPost (L : List Int) (w : World) (e : Ending) (w' : World) : Prop := ∃ q : Bool, e = .returned (.bool q) ∧ (q = true → Sorted L) ∧ ∃ m, w' = w.drewN m

theorem sorted7_any (a : Option Addr) (c : Nat) (L : List Int) (w : World) (hm : L.length ≤ 1048576) (hR : Row .i64 w a L) : Calls Trym.prog 7 #[.slice a L.length c] w (SortPost L w) := by
  rcases hR with rfl | ⟨b, o, rfl, hc⟩
  · refine (sorted7_nil a c w).mono ?_
    rintro e w' ⟨rfl, rfl⟩
    exact ⟨true, rfl, fun _ i hi => absurd hi (by simp), 0, rfl⟩
  · exact sorted7_row b o c L w (by unfold maxLen; omega) hc

theorem least14_any (a : Option Addr) (c : Nat) (L : List Int) (t : Int) (w : World) (hm : L.length ≤ 1048576) (hs : Hid (Sorted L)) (hR : Row .i64 w a L) : Calls Trym.prog 14 #[.slice a L.length c, .int .i64 t] w (LeastPost L t w) := by
  rcases hR with rfl | ⟨b, o, rfl, hc⟩
  · exact least14_nil a c t w
  · exact least14_row b o c L t w hm hs hc

theorem all15_any (a : Option Addr) (c : Nat) (L : List Int) (w : World) (hm : L.length ≤ 1048576) (hR : Row .u8 w a L) : Calls Trym.prog 15 #[.slice a L.length c] w (AllPost L w) := by
  rcases hR with rfl | ⟨b, o, rfl, hc⟩
  · exact all15_nil a c w
  · exact all15_row b o c L w hm hc

/-! The same contracts with the length behind a letter. -/
def ClonePostN (k : IntKind) (L : List Int) (n : Nat) (w : World) (e : Ending) (w' : World) : Prop :=
  ∃ a', e = .returned (.slice a' n n) ∧ Row k w' a' L ∧ Below w.heap.size w w'

theorem clone8_n (a : Option Addr) (n c : Nat) (L : List Int) (w : World) (hn : Hid (L.length = n)) (hm : n ≤ 1048576) (hR : Row .u8 w a L) (h : a = none → L = [] ∧ c = 0) :
    Calls Trym.prog 8 #[.slice a n c] w (ClonePostN .u8 L n w) := by
  obtain rfl := hn.out
  exact clone8_any a c L w hm hR h
theorem clone9_n (a : Option Addr) (n c : Nat) (L : List Int) (w : World) (hn : Hid (L.length = n)) (hm : n ≤ 1048576) (hR : Row .i64 w a L) (h : a = none → L = [] ∧ c = 0) :
    Calls Trym.prog 9 #[.slice a n c] w (ClonePostN .i64 L n w) := by
  obtain rfl := hn.out
  exact clone9_any a c L w hm hR h
theorem sorted7_n (a : Option Addr) (n c : Nat) (L : List Int) (w : World) (hn : Hid (L.length = n)) (hm : n ≤ 1048576) (hR : Row .i64 w a L) : Calls Trym.prog 7 #[.slice a n c] w (SortPost L w) := by
  obtain rfl := hn.out
  exact sorted7_any a c L w hm hR
theorem least14_n (a : Option Addr) (n c : Nat) (L : List Int) (t : Int) (w : World) (hn : Hid (L.length = n)) (hm : n ≤ 1048576) (hs : Hid (Sorted L)) (hR : Row .i64 w a L) : Calls Trym.prog 14 #[.slice a n c, .int .i64 t] w (LeastPost L t w) := by
  obtain rfl := hn.out
  exact least14_any a c L t w hm hs hR
theorem all15_n (a : Option Addr) (n c : Nat) (L : List Int) (w : World) (hn : Hid (L.length = n)) (hm : n ≤ 1048576) (hR : Row .u8 w a L) : Calls Trym.prog 15 #[.slice a n c] w (AllPost L w) := by
  obtain rfl := hn.out
  exact all15_any a c L w hm hR
theorem told12_n (b n c N : Nat) (S : List Stp) (t : Int) (lb g cap : Nat) (ln : List Int) (sh : Int) (w : World) (hn : Hid (S.length = n)) (hN : Hid (ln.length = N)) (hS : Hid (StepsAt w b S)) (h2 : 2 ≤ n) (h9 : n ≤ 100)
    (hl : Hid (LineAt w lb g cap ln)) (hsh : Hid (Shown ln sh)) (hm2 : N ≤ 2097152) (E : Int) (hE : E = (N : Int)) :
    Calls Trym.prog 12 #[.slice (some ⟨b, 0, none⟩) n c, .pointer (some ⟨lb, 0, none⟩), .int .i32 E, .int .i64 t] w
      (ToldPost (p3 t sh S n (p1 t ln S (n - 2) (-1, false))) w) := by
  obtain rfl := hn.out
  obtain rfl := hN.out
  subst hE
  exact told12 b c S t lb g cap ln sh w hS h2 h9 hl hsh hm2
end Go.Proofs.Qxb6605764aMods
