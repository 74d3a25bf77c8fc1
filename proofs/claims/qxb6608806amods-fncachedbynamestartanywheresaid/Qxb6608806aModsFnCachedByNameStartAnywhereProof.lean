/-
  The row of the law on a look-up from any start, after the frame of the guide's shells, for a slice of strings, a string and an int.
-/
import Derived.Test.Qxb6608806aModsRows
import Derived.WalkKit
import Derived.ProofKit
import Derived.OpenShut
import Derived.ShutString
import Derived.ChangeOld
import Derived.Below
import Derived.SliceStrings
import Derived.Test.Qxb6608806aModsAny
namespace Go.Proofs.Qxb6608806aMods.fnCachedByNameStartAnywhere
open Go.ChangeShapes Go.WideShapes Go.ChangeAt Go.RowKit
open Go.ChangeMaps (open_string shut_string)
set_option linter.unusedVariables false

theorem own : ownKnob Trym.prog.godebug = none := by kernel_rfl
theorem laidOut : laidOutB Trym.prog = true := by kernel_rfl

theorem strs_nil (w : World) : Strs w none 0 [] := ⟨rfl, Nat.zero_le _, fun h => absurd h (Nat.lt_irrefl _)⟩

theorem strs_of {w : World} {x : Addr} {len cap : Nat} {ss : List ByteArray} (hl : len ≤ cap) (hm : cap ≤ maxLen) (hz : ss.length = cap) (hc : ∀ i, i < ss.length → w.cell? (x.add i) = some (.string (ss.getD i ByteArray.empty))) (hs : ∀ s ∈ ss, s.size ≤ maxLen) :
    Strs w (some x) len (ss.take len) := by
  have hlen : (ss.take len).length = len := by simp; omega
  refine ⟨hlen, by omega, fun h0 => ?_⟩
  obtain ⟨b, o, spot⟩ := x
  have hspot : spot = none := by simpa [Addr.add] using World.cell?_spot (hc 0 (by omega))
  subst hspot
  have e : ∀ i, i < len → nm (ss.take len) i = ss.getD i ByteArray.empty := fun i hi => by
    unfold nm
    simp [hi]
  refine ⟨b, o, rfl, hlen, ?_, fun i hi => ?_, fun i hi => ?_⟩
  · have := lt_of_cell (hc 0 (by omega))
    simpa [Addr.add] using this
  · have := hc i (by omega)
    rw [Addr.add_lit] at this
    rw [this, e i hi]
  · rw [e i hi]
    have hi' : i < ss.length := by omega
    have e2 : ss.getD i ByteArray.empty = ss[i] := by simp [hi']
    rw [e2]
    exact hs _ (List.getElem_mem _)

set_option maxRecDepth 100000 in
theorem lifted (os : Os) (started : os.Started) (H : Type) (enc : TypeId × Value → H) :
    ReturnsInHanded {} Trym.checked os 4 .any (Rows.fnCachedByNameStartAnywhereSpec.pre6 enc Trym.prog Trym.f4 Rows.fnCachedByNameStartAnywhereRow.domain false) (Rows.fnCachedByNameStartAnywhereSpec.post enc Trym.prog Trym.f4 false true false false) := by
  refine returnsInHanded_of_change (C := Trym.checked) own started (by kernel_rfl) Trym.func4
    (ChangeSpec.witness6 (enc := enc) (C := Trym.checked) false ⟨#[], #[.slice none 0 0, .string ByteArray.empty, .int .i64 0], []⟩ 8 (by kernel_rfl) (by kernel_rfl) (by kernel_rfl) (by kernel_rfl)) ?_
  intro W base args ds gs before hval0 hW hcnd _
  have hval : ∀ (j : Nat) t v, Trym.f4.params[j]? = some t → args[j]? = some v → Value.okWide Trym.prog W .any base t v := hval0
  have hW' := hW
  obtain ⟨p, q, hA0, hV, rfl, hfz, hnd⟩ := hW
  have hA : DataW.TrodAll enc Trym.prog W 0 (fun _ => true) true Trym.f4.params.toList args.toList ds p := hA0
  rw [Trym.params4] at hA hval
  obtain ⟨v0, vs0, d0, ds0, p0, q0, hargs, rfl, rfl, h0, r0⟩ := trodAll_cons hA
  obtain ⟨v1, vs1, d1, ds1, p1, q1, rfl, rfl, rfl, h1, r1⟩ := trodAll_cons r0
  obtain ⟨v2, vs2, d2, ds2, p2, q2, rfl, rfl, rfl, h2, r2⟩ := trodAll_cons r1
  obtain ⟨rfl, rfl, rfl⟩ := trodAll_nil r2
  obtain rfl : args = #[v0, v1, v2] := by cases args; simp_all
  obtain ⟨rfl, rfl⟩ := trodVars_none hV
  obtain ⟨a0, len0, cap0, rfl⟩ := okWide_slice Trym.underlying22 (hval 0 22 v0 rfl rfl)
  have k0 := h0
  have lt0 : ∀ x ∈ p0, x.block < W.heap.size := by obtain ⟨m, hm⟩ := k0; exact DataW.trod_lt m _ _ _ hm
  obtain ⟨z0, w0⟩ : ∃ N, Strs W a0 len0 N := by
    obtain ⟨fuel, hf⟩ := h0
    rcases open_strings Trym.underlying22 Trym.underlying9 (by kernel_rfl) hf with ⟨hcs, _⟩ | ⟨x, l, c, ss, hcs, _, hl, hm, hz, _, hcell, hws⟩
    · simp [Value.cells] at hcs
      obtain ⟨rfl, rfl, rfl⟩ := hcs
      exact ⟨[], strs_nil W⟩
    · simp [Value.cells] at hcs
      obtain ⟨rfl, rfl, rfl⟩ := hcs
      exact ⟨_, strs_of hl hm (by simpa using hz) hcell hws⟩
  obtain ⟨x1, rfl, rfl, rfl, w1⟩ := open_string Trym.underlying9 (hval 1 9 v1 rfl rfl) h1
  obtain ⟨x2, rfl, rfl, rfl, w2⟩ := open_int Trym.underlying3 (hval 2 3 v2 rfl rfl) h2
  clear hA0 hval0
  refine (any_main a0 len0 cap0 z0 x1 x2 W w0 w1).mono fun e W' ⟨he, bel⟩ => ?_
  subst he
  exact ⟨_, rfl, _, _, _, [], _, [], hW', trodAll_mk1 (shut_bool Trym.underlying4 _), (trodAll_cons_mk (Below.trod laidOut (by kernel_rfl) (of_decide_eq_true (by kernel_rfl)) k0 bel lt0) (trodAll_cons_mk (shut_string Trym.underlying9 w1) (trodAll_cons_mk (shut_int Trym.underlying3 w2) trodAll_mk0))), rfl, bel.frame _, fun h => by cases h⟩

theorem over : Rows.fnCachedByNameStartAnywhereRow.holds Trym.pinned (OpenSpec.ofChange Rows.fnCachedByNameStartAnywhereSpec) :=
  OpenClaim.holds_of_wide 4 Trym.f4 rfl rfl rfl rfl rfl rfl rfl ⟨rfl, rfl, rfl, rfl, rfl⟩ rfl rfl rfl rfl rfl (by kernel_rfl) Trym.func4 (by kernel_rfl)
    (of_decide_eq_true (by kernel_rfl)) (by unfold Func.isWrapper; first | (rw [if_pos (by decide +kernel)]; kernel_rfl) | (rw [if_neg (by decide +kernel)]; exact ⟨rfl, rfl⟩))
    (fun os started H enc _ => lifted os started H enc)

/-- ████ THE STATEMENT ████ -/
theorem proved : Rows.FnCachedByNameStartAnywhereSaid := over
end Go.Proofs.Qxb6608806aMods.fnCachedByNameStartAnywhere
