/-
  The row of the law on the drop of a watch, after the frame of the guide's shells, for a slice of pairs (a string and a slice of strings), a string, a slice of strings and a bool.
-/
import Derived.Test.Qxb6608970aModsRows
import Derived.WalkKit
import Derived.ProofKit
import Derived.OpenShut
import Derived.ShutString
import Derived.SliceStrings
import Derived.ChangeOld
import Derived.Below
import Derived.Deep.SlicePairs
import Derived.Test.Qxb6608970aModsMainB
namespace Go.Proofs.Qxb6608970aMods.fnWatchesDropLeavesExactlyTheOthers
open Go.ChangeShapes Go.WideShapes Go.ChangeAt Go.RowKit
open Go.ChangeMaps (open_string shut_string)
set_option linter.unusedVariables false

theorem own : ownKnob Trym.prog.godebug = none := by kernel_rfl
theorem laidOut : laidOutB Trym.prog = true := by kernel_rfl

theorem oth_nil (w : World) : Oth w.heap.size w none 0 [] := ⟨rfl, Nat.zero_le _, fun h => absurd h (Nat.lt_irrefl _), fun i h => absurd h (Nat.not_lt_zero _)⟩
theorem strs_nil (w : World) : Strs w.heap.size w none 0 [] := ⟨rfl, Nat.zero_le _, fun h => absurd h (Nat.lt_irrefl _), fun i h => absurd h (Nat.not_lt_zero _)⟩

theorem strs_of {w : World} {a : Addr} {len cap : Nat} {ss : List ByteArray} (hl : len ≤ cap) (hm : cap ≤ maxLen) (hs : ss.length = cap) (hc : ∀ i, i < ss.length → w.cell? (a.add i) = some (.string (ss.getD i ByteArray.empty))) (hz : ∀ s ∈ ss, s.size ≤ maxLen) :
    Strs w.heap.size w (some a) len (ss.take len) := by
  have e : ∀ i, i < len → nm (ss.take len) i = ss.getD i ByteArray.empty := fun i hi => by
    unfold nm
    rw [List.getD_eq_getElem?_getD, List.getD_eq_getElem?_getD, List.getElem?_take, if_pos hi]
  refine ⟨by rw [List.length_take]; omega, by omega, fun hp => ?_, fun i hi => ?_⟩
  · obtain ⟨b, o, spot⟩ := a
    have c0 := hc 0 (by omega)
    have hspot : spot = none := by simpa [Addr.add] using World.cell?_spot c0
    subst hspot
    refine ⟨b, o, rfl, ?_, fun i hi => ?_⟩
    · have := lt_of_cell c0
      simpa [Addr.add] using this
    · have c := hc i (by omega)
      rw [Addr.add_lit] at c
      rw [e i hi]
      exact c
  · rw [e i hi, List.getD_eq_getElem?_getD, List.getElem?_eq_getElem (by omega)]
    exact hz _ (List.getElem_mem _)

theorem strs_open {H : Type} {enc : TypeId × Value → H} {w : World} {base fuel : Nat} {held : Bool} {cs : List Value} {x : DataW H × List MemPlace} (h : DataW.trod enc Trym.prog w base (fun _ => true) held fuel 44 cs = some x) :
    ∃ N a l c, cs = [.slice a l c] ∧ Strs w.heap.size w a l N ∧ (a = none → l = 0 ∧ c = 0) := by
  rcases open_strings Trym.underlying44 Trym.underlying9 (by kernel_rfl) h with ⟨hcs, _⟩ | ⟨a, len, cap, ss, hcs, _, hl, hm, hs, _, hc, hz⟩
  · exact ⟨[], none, 0, 0, hcs, strs_nil w, fun _ => ⟨rfl, rfl⟩⟩
  · exact ⟨ss.take len, some a, len, cap, hcs, strs_of hl hm (by simpa using hs) hc hz, fun h => by cases h⟩

theorem oth_of {w : World} {x : Addr} {len : Nat} {V0 V1 : Nat → Value} (hm : len ≤ maxLen)
    (hc : ∀ i, i < len → w.cell? (x.add (i * 2)) = some (V0 i) ∧ w.cell? (x.add (i * 2 + 1)) = some (V1 i)) (h0 : ∀ i, i < len → ∃ s : ByteArray, V0 i = .string s ∧ s.size ≤ maxLen)
    (h1 : ∀ i, i < len → ∃ N a l c, V1 i = .slice a l c ∧ Strs w.heap.size w a l N ∧ (a = none → l = 0 ∧ c = 0)) : ∃ O, Oth w.heap.size w (some x) len O := by
  obtain ⟨S, hS⟩ : ∃ S : Nat → ByteArray, ∀ i, i < len → V0 i = .string (S i) ∧ (S i).size ≤ maxLen :=
    ⟨fun i => if h : i < len then (h0 i h).choose else ByteArray.empty, fun i hi => by simp only [hi, dif_pos]; exact (h0 i hi).choose_spec⟩
  obtain ⟨Z, hZ⟩ : ∃ Z : Nat → List Str, ∀ i, i < len → ∃ a l c, V1 i = .slice a l c ∧ Strs w.heap.size w a l (Z i) ∧ (a = none → l = 0 ∧ c = 0) :=
    ⟨fun i => if h : i < len then (h1 i h).choose else [], fun i hi => by simp only [hi, dif_pos]; exact (h1 i hi).choose_spec⟩
  have eE : ∀ i, i < len → ((List.range len).map (fun i => (S i, Z i))).getD i (ByteArray.empty, []) = (S i, Z i) := fun i hi => by simp [List.getD_eq_getElem?_getD, hi]
  have e1 : ∀ i, i < len → rN ((List.range len).map (fun i => (S i, Z i))) i = S i := fun i hi => by unfold rN; rw [eE i hi]
  have e2 : ∀ i, i < len → cN ((List.range len).map (fun i => (S i, Z i))) i = Z i := fun i hi => by unfold cN; rw [eE i hi]
  refine ⟨(List.range len).map (fun i => (S i, Z i)), by simp, hm, fun hp => ?_, fun i hi => ?_⟩
  · obtain ⟨b, o, spot⟩ := x
    have hspot : spot = none := by simpa [Addr.add] using World.cell?_spot (hc 0 hp).1
    subst hspot
    refine ⟨b, o, rfl, ?_, fun i hi => ?_⟩
    · have := lt_of_cell (hc 0 hp).1
      simpa [Addr.add] using this
    · obtain ⟨c0, c1⟩ := hc i hi
      rw [Addr.add_lit] at c0 c1
      rw [e1 i hi, e2 i hi]
      obtain ⟨a, l, c, g1, g2, g3⟩ := hZ i hi
      exact ⟨by rw [c0, (hS i hi).1], a, l, c, by rw [Nat.add_assoc, c1, g1], g2, g3⟩
  · rw [e1 i hi]
    exact (hS i hi).2

set_option maxRecDepth 100000 in
theorem lifted (os : Os) (started : os.Started) (H : Type) (enc : TypeId × Value → H) :
    ReturnsInHanded {} Trym.checked os 8 .any (Rows.fnWatchesDropLeavesExactlyTheOthersSpec.pre6 enc Trym.prog Trym.f8 Rows.fnWatchesDropLeavesExactlyTheOthersRow.domain false) (Rows.fnWatchesDropLeavesExactlyTheOthersSpec.post enc Trym.prog Trym.f8 false true false false) := by
  refine returnsInHanded_of_change (C := Trym.checked) own started (by kernel_rfl) Trym.func8
    (ChangeSpec.witness6 (enc := enc) (C := Trym.checked) false ⟨#[], #[.slice none 0 0, .string ByteArray.empty, .slice none 0 0, .bool false], []⟩ 8 (by kernel_rfl) (by kernel_rfl) (by kernel_rfl) (by kernel_rfl)) ?_
  intro W base args ds gs before hval0 hW hcnd _
  have hval : ∀ (j : Nat) t v, Trym.f8.params[j]? = some t → args[j]? = some v → Value.okWide Trym.prog W .any base t v := hval0
  have hW' := hW
  obtain ⟨p, q, hA0, hV, rfl, hfz, hnd⟩ := hW
  have hA : DataW.TrodAll enc Trym.prog W 0 (fun _ => true) true Trym.f8.params.toList args.toList ds p := hA0
  rw [Trym.params8] at hA hval
  obtain ⟨v0, vs0, d0, ds0, p0, q0, hargs, rfl, rfl, h0, r0⟩ := trodAll_cons hA
  obtain ⟨v1, vs1, d1, ds1, p1, q1, rfl, rfl, rfl, h1, r1⟩ := trodAll_cons r0
  obtain ⟨v2, vs2, d2, ds2, p2, q2, rfl, rfl, rfl, h2, r2⟩ := trodAll_cons r1
  obtain ⟨v3, vs3, d3, ds3, p3, q3, rfl, rfl, rfl, h3, r3⟩ := trodAll_cons r2
  obtain ⟨rfl, rfl, rfl⟩ := trodAll_nil r3
  obtain rfl : args = #[v0, v1, v2, v3] := by cases args; simp_all
  obtain ⟨rfl, rfl⟩ := trodVars_none hV
  obtain ⟨a0, len0, cap0, rfl⟩ := okWide_slice Trym.underlying43 (hval 0 43 v0 rfl rfl)
  obtain ⟨a2, len2, cap2, rfl⟩ := okWide_slice Trym.underlying44 (hval 2 44 v2 rfl rfl)
  have k0 := h0
  have k2 := h2
  have lt0 : ∀ x ∈ p0, x.block < W.heap.size := by obtain ⟨m, hm⟩ := k0; exact DataW.trod_lt m _ _ _ hm
  have lt2 : ∀ x ∈ p2, x.block < W.heap.size := by obtain ⟨m, hm⟩ := k2; exact DataW.trod_lt m _ _ _ hm
  obtain ⟨z0, w0, hn0⟩ : ∃ O, Oth W.heap.size W a0 len0 O ∧ (a0 = none → len0 = 0 ∧ cap0 = 0) := by
    obtain ⟨fuel, hf⟩ := h0
    rcases Deep.open_slice_pairs Trym.underlying43 Trym.underlying47 (by kernel_rfl) rfl rfl (by kernel_rfl) (by kernel_rfl) hf with ⟨hcs, _⟩ | ⟨x, l, c, m, k, V0, V1, D0, D1, P0, P1, hcs, _, hl, hm, hmm, _, hall⟩
    · simp [Value.cells] at hcs
      obtain ⟨rfl, rfl, rfl⟩ := hcs
      exact ⟨[], oth_nil W, fun _ => ⟨rfl, rfl⟩⟩
    · simp [Value.cells] at hcs
      obtain ⟨rfl, rfl, rfl⟩ := hcs
      simp only [if_true] at hmm
      subst hmm
      obtain ⟨E, hE⟩ := oth_of (w := W) (x := x) (len := len0) (V0 := V0) (V1 := V1) (Nat.le_trans hl hm) (fun i hi => ⟨(hall i (by omega)).1, (hall i (by omega)).2.1⟩)
        (fun i hi => by
          obtain ⟨s, h1, _, h3⟩ := DataW.trod_string Trym.underlying9 (hall i (by omega)).2.2.1
          exact ⟨s, by simpa using h1, h3⟩)
        (fun i hi => by
          obtain ⟨N, a, l, c, h1, h2, h3⟩ := strs_open (hall i (by omega)).2.2.2
          exact ⟨N, a, l, c, by simpa using h1, h2, h3⟩)
      exact ⟨E, hE, fun h => by cases h⟩
  obtain ⟨z2, w2, hn2⟩ : ∃ N, Strs W.heap.size W a2 len2 N ∧ (a2 = none → len2 = 0 ∧ cap2 = 0) := by
    obtain ⟨fuel, hf⟩ := h2
    obtain ⟨N, a, l, c, hcs, g1, g2⟩ := strs_open hf
    simp [Value.cells] at hcs
    obtain ⟨rfl, rfl, rfl⟩ := hcs
    exact ⟨N, g1, g2⟩
  obtain ⟨x1, rfl, rfl, rfl, w1⟩ := open_string Trym.underlying9 (hval 1 9 v1 rfl rfl) h1
  obtain ⟨x3, rfl, rfl, rfl⟩ := open_bool Trym.underlying4 (hval 3 4 v3 rfl rfl) h3
  clear hA0 hval0
  refine (main8 a0 a2 len0 cap0 len2 cap2 z0 x1 z2 x3 W w0 w1 w2 hn0 hn2).mono fun e W' ⟨he, bel⟩ => ?_
  subst he
  exact ⟨_, rfl, _, _, _, [], _, [], hW', trodAll_mk1 (shut_bool Trym.underlying4 _), (trodAll_cons_mk (Below.trod laidOut (by kernel_rfl) (of_decide_eq_true (by kernel_rfl)) k0 bel lt0) (trodAll_cons_mk (shut_string Trym.underlying9 w1) (trodAll_cons_mk (Below.trod laidOut (by kernel_rfl) (of_decide_eq_true (by kernel_rfl)) k2 bel lt2) (trodAll_cons_mk (shut_bool Trym.underlying4 _) trodAll_mk0)))), rfl, bel.frame _, fun h => by cases h⟩

theorem over : Rows.fnWatchesDropLeavesExactlyTheOthersRow.holds Trym.pinned (OpenSpec.ofChange Rows.fnWatchesDropLeavesExactlyTheOthersSpec) :=
  OpenClaim.holds_of_wide 8 Trym.f8 rfl rfl rfl rfl rfl rfl rfl ⟨rfl, rfl, rfl, rfl, rfl⟩ rfl rfl rfl rfl rfl (by kernel_rfl) Trym.func8 (by kernel_rfl)
    (of_decide_eq_true (by kernel_rfl)) (by unfold Func.isWrapper; first | (rw [if_pos (by decide +kernel)]; kernel_rfl) | (rw [if_neg (by decide +kernel)]; exact ⟨rfl, rfl⟩))
    (fun os started H enc _ => lifted os started H enc)

/-- ████ THE STATEMENT ████ -/
theorem proved : Rows.FnWatchesDropLeavesExactlyTheOthersSaid := over
end Go.Proofs.Qxb6608970aMods.fnWatchesDropLeavesExactlyTheOthers
