/-
  The row of the law on watchIndex.add, after the frame of the guide's shells, for a slice of pairs, a string and an int.
-/
import Derived.Test.Qxb6608970aModsRows
import Derived.WalkKit
import Derived.ProofKit
import Derived.OpenShut
import Derived.ShutString
import Derived.ChangeOld
import Derived.Below
import Derived.Deep.SlicePairs
import Derived.Test.Qxb6608970aModsMainA
namespace Go.Proofs.Qxb6608970aMods.fnWatchIndexAddHoldsExactlyTheAddedPairs
open Go.ChangeShapes Go.WideShapes Go.ChangeAt Go.RowKit
open Go.ChangeMaps (open_string shut_string)
set_option linter.unusedVariables false

theorem own : ownKnob Trym.prog.godebug = none := by kernel_rfl
theorem laidOut : laidOutB Trym.prog = true := by kernel_rfl

theorem ents_nil (w : World) : Ents w none 0 [] := ⟨rfl, Nat.zero_le _, fun h => absurd h (Nat.lt_irrefl _), fun i h => absurd h (Nat.not_lt_zero _)⟩

theorem ents_of {w : World} {x : Addr} {len : Nat} {V0 V1 : Nat → Value} (hm : len ≤ maxLen)
    (hc : ∀ i, i < len → w.cell? (x.add (i * 2)) = some (V0 i) ∧ w.cell? (x.add (i * 2 + 1)) = some (V1 i)) (h0 : ∀ i, i < len → ∃ s : ByteArray, V0 i = .string s ∧ s.size ≤ maxLen) (h1 : ∀ i, i < len → ∃ z : Int, V1 i = .int .i64 z) :
    ∃ E, Ents w (some x) len E := by
  obtain ⟨S, hS⟩ : ∃ S : Nat → ByteArray, ∀ i, i < len → V0 i = .string (S i) ∧ (S i).size ≤ maxLen :=
    ⟨fun i => if h : i < len then (h0 i h).choose else ByteArray.empty, fun i hi => by simp only [hi, dif_pos]; exact (h0 i hi).choose_spec⟩
  obtain ⟨Z, hZ⟩ : ∃ Z : Nat → Int, ∀ i, i < len → V1 i = .int .i64 (Z i) :=
    ⟨fun i => if h : i < len then (h1 i h).choose else 0, fun i hi => by simp only [hi, dif_pos]; exact (h1 i hi).choose_spec⟩
  have eE : ∀ i, i < len → ((List.range len).map (fun i => (S i, Z i))).getD i (ByteArray.empty, 0) = (S i, Z i) := fun i hi => by simp [List.getD_eq_getElem?_getD, hi]
  refine ⟨(List.range len).map (fun i => (S i, Z i)), by simp, hm, fun hp => ?_, fun i hi => ?_⟩
  · obtain ⟨b, o, spot⟩ := x
    have hspot : spot = none := by simpa [Addr.add] using World.cell?_spot (hc 0 hp).1
    subst hspot
    refine ⟨b, o, rfl, ?_, fun i hi => ?_⟩
    · have := lt_of_cell (hc 0 hp).1
      simpa [Addr.add] using this
    · obtain ⟨c0, c1⟩ := hc i hi
      rw [Addr.add_lit] at c0 c1
      unfold eN eI
      rw [eE i hi]
      exact ⟨by rw [c0, (hS i hi).1], by rw [Nat.add_assoc, c1, hZ i hi]⟩
  · unfold eN
    rw [eE i hi]
    exact (hS i hi).2

set_option maxRecDepth 100000 in
theorem lifted (os : Os) (started : os.Started) (H : Type) (enc : TypeId × Value → H) :
    ReturnsInHanded {} Trym.checked os 7 .any (Rows.fnWatchIndexAddHoldsExactlyTheAddedPairsSpec.pre6 enc Trym.prog Trym.f7 Rows.fnWatchIndexAddHoldsExactlyTheAddedPairsRow.domain false) (Rows.fnWatchIndexAddHoldsExactlyTheAddedPairsSpec.post enc Trym.prog Trym.f7 false true false false) := by
  refine returnsInHanded_of_change (C := Trym.checked) own started (by kernel_rfl) Trym.func7
    (ChangeSpec.witness6 (enc := enc) (C := Trym.checked) false ⟨#[], #[.slice none 0 0, .string ByteArray.empty, .int .i64 0], []⟩ 8 (by kernel_rfl) (by kernel_rfl) (by kernel_rfl) (by kernel_rfl)) ?_
  intro W base args ds gs before hval0 hW hcnd _
  have hval : ∀ (j : Nat) t v, Trym.f7.params[j]? = some t → args[j]? = some v → Value.okWide Trym.prog W .any base t v := hval0
  have hW' := hW
  obtain ⟨p, q, hA0, hV, rfl, hfz, hnd⟩ := hW
  have hA : DataW.TrodAll enc Trym.prog W 0 (fun _ => true) true Trym.f7.params.toList args.toList ds p := hA0
  rw [Trym.params7] at hA hval
  obtain ⟨v0, vs0, d0, ds0, p0, q0, hargs, rfl, rfl, h0, r0⟩ := trodAll_cons hA
  obtain ⟨v1, vs1, d1, ds1, p1, q1, rfl, rfl, rfl, h1, r1⟩ := trodAll_cons r0
  obtain ⟨v2, vs2, d2, ds2, p2, q2, rfl, rfl, rfl, h2, r2⟩ := trodAll_cons r1
  obtain ⟨rfl, rfl, rfl⟩ := trodAll_nil r2
  obtain rfl : args = #[v0, v1, v2] := by cases args; simp_all
  obtain ⟨rfl, rfl⟩ := trodVars_none hV
  obtain ⟨a0, len0, cap0, rfl⟩ := okWide_slice Trym.underlying29 (hval 0 29 v0 rfl rfl)
  have k0 := h0
  have lt0 : ∀ x ∈ p0, x.block < W.heap.size := by obtain ⟨m, hm⟩ := k0; exact DataW.trod_lt m _ _ _ hm
  obtain ⟨z0, w0, hn0⟩ : ∃ E, Ents W a0 len0 E ∧ (a0 = none → len0 = 0 ∧ cap0 = 0) := by
    obtain ⟨fuel, hf⟩ := h0
    rcases Deep.open_slice_pairs Trym.underlying29 Trym.underlying32 (by kernel_rfl) rfl rfl (by kernel_rfl) (by kernel_rfl) hf with ⟨hcs, _⟩ | ⟨x, l, c, m, k, V0, V1, D0, D1, P0, P1, hcs, _, hl, hm, hmm, _, hall⟩
    · simp [Value.cells] at hcs
      obtain ⟨rfl, rfl, rfl⟩ := hcs
      exact ⟨[], ents_nil W, fun _ => ⟨rfl, rfl⟩⟩
    · simp [Value.cells] at hcs
      obtain ⟨rfl, rfl, rfl⟩ := hcs
      simp only [if_true] at hmm
      subst hmm
      obtain ⟨E, hE⟩ := ents_of (w := W) (x := x) (len := len0) (V0 := V0) (V1 := V1) (Nat.le_trans hl hm) (fun i hi => ⟨(hall i (by omega)).1, (hall i (by omega)).2.1⟩)
        (fun i hi => by
          obtain ⟨s, h1, _, h3⟩ := DataW.trod_string Trym.underlying9 (hall i (by omega)).2.2.1
          exact ⟨s, by simpa using h1, h3⟩)
        (fun i hi => by
          obtain ⟨z, h1, _⟩ := DataW.trod_int Trym.underlying3 (hall i (by omega)).2.2.2
          exact ⟨z, by simpa using h1⟩)
      exact ⟨E, hE, fun h => by cases h⟩
  obtain ⟨x1, rfl, rfl, rfl, w1⟩ := open_string Trym.underlying9 (hval 1 9 v1 rfl rfl) h1
  obtain ⟨x2, rfl, rfl, rfl, w2⟩ := open_int Trym.underlying3 (hval 2 3 v2 rfl rfl) h2
  clear hA0 hval0
  refine (main7 a0 len0 cap0 z0 x1 x2 W w0 w1 hn0).mono fun e W' ⟨he, bel⟩ => ?_
  subst he
  exact ⟨_, rfl, _, _, _, [], _, [], hW', trodAll_mk1 (shut_bool Trym.underlying4 _), (trodAll_cons_mk (Below.trod laidOut (by kernel_rfl) (of_decide_eq_true (by kernel_rfl)) k0 bel lt0) (trodAll_cons_mk (shut_string Trym.underlying9 w1) (trodAll_cons_mk (shut_int Trym.underlying3 w2) trodAll_mk0))), rfl, bel.frame _, fun h => by cases h⟩

theorem over : Rows.fnWatchIndexAddHoldsExactlyTheAddedPairsRow.holds Trym.pinned (OpenSpec.ofChange Rows.fnWatchIndexAddHoldsExactlyTheAddedPairsSpec) :=
  OpenClaim.holds_of_wide 7 Trym.f7 rfl rfl rfl rfl rfl rfl rfl ⟨rfl, rfl, rfl, rfl, rfl⟩ rfl rfl rfl rfl rfl (by kernel_rfl) Trym.func7 (by kernel_rfl)
    (of_decide_eq_true (by kernel_rfl)) (by unfold Func.isWrapper; first | (rw [if_pos (by decide +kernel)]; kernel_rfl) | (rw [if_neg (by decide +kernel)]; exact ⟨rfl, rfl⟩))
    (fun os started H enc _ => lifted os started H enc)

/-- ████ THE STATEMENT ████ -/
theorem proved : Rows.FnWatchIndexAddHoldsExactlyTheAddedPairsSaid := over
end Go.Proofs.Qxb6608970aMods.fnWatchIndexAddHoldsExactlyTheAddedPairs
