import Derived.Test.Qxb6608597aModsTallyPlain
namespace Go.Proofs.Qxb6608597aMods
open Go.RowKit Go.Maps
set_option linter.unusedVariables false
set_option maxRecDepth 100000

def YesPost (w : World) (e : Ending) (w' : World) : Prop := e = .returned (.bool true) ∧ Below w.heap.size w w'

theorem bytes15 (a : Option Addr) (n c : Nat) (p : Int) (w : World) (h : n ≤ 1048576) :
    Calls Trym.prog 15 #[.slice a n c, .int .u64 p] w fun e w' => e = .returned (.bool true) ∧ w' = w := by
  go_enter Trym.func15, Trym.ntmps15
  go_wp2
  go_ret
  exact ⟨rfl, rfl⟩
theorem bytes15_no (a : Option Addr) (n c : Nat) (p : Int) (w : World) (hm : n ≤ maxLen) (h : ¬ n ≤ 1048576) :
    Calls Trym.prog 15 #[.slice a n c, .int .u64 p] w fun e w' => e = .returned (.bool false) ∧ w' = w := by
  unfold maxLen at hm
  go_enter Trym.func15, Trym.ntmps15
  go_wp2
  go_ret
  exact ⟨rfl, rfl⟩

theorem tally_big (a : Option Addr) (n c : Nat) (p : Int) (w : World) (hm : n ≤ maxLen) (h : ¬ n ≤ 1048576) :
    Calls Trym.prog 4 #[.slice a n c, .int .u64 p] w (YesPost w) := by
  have HC : Hid (Calls Trym.prog 15 #[.slice a n c, .int .u64 p] w fun e w' => e = .returned (.bool false) ∧ w' = w) := bytes15_no a n c p w hm h
  clear h
  go_enter Trym.func4, Trym.ntmps4
  go_wp2_with fail
  refine HC.out.mono ?_
  rintro e w' ⟨rfl, rfl⟩
  go_wp2_with fail
  go_ret
  exact ⟨rfl, Below.refl _ _⟩

theorem tally_long (a : Option Addr) (n c : Nat) (p : Int) (w : World) (h : n ≤ 1048576) (h1 : 4096 < n) :
    Calls Trym.prog 4 #[.slice a n c, .int .u64 p] w (YesPost w) := by
  have HC : Hid (Calls Trym.prog 15 #[.slice a n c, .int .u64 p] w fun e w' => e = .returned (.bool true) ∧ w' = w) := bytes15 a n c p w h
  go_enter Trym.func4, Trym.ntmps4
  go_wp2_with fail
  refine HC.out.mono ?_
  rintro e w' ⟨rfl, rfl⟩
  go_wp2_with fail
  go_ret
  exact ⟨rfl, Below.refl _ _⟩

/-- The state of the tally behind the first k numbers. -/
def Tal (B cb : Nat) (l : List Int) (w : World) (k : Nat) (wr : World) : Prop :=
  ∃ m, Cnt wr cb m k (F (l.take k)) (dis l k) ∧ (m = none ↔ k = 0) ∧ (∀ b, m = some b → B ≤ b) ∧ Below B w wr ∧ B ≤ wr.heap.size

theorem tal_start (w : World) (l : List Int) : Tal w.heap.size w.heap.size l w 0 (w.alloc (.cells #[.map none] 67)) := by
  refine ⟨none, ⟨?_, ?_, .inl ⟨rfl, rfl, fun x => by simp [F]⟩⟩, by simp, (fun b h => by cases h), (Below.refl _ _).alloc (Nat.le_refl _) _, by simp⟩
  · simp
  · simp

theorem tal_step {B cb : Nat} {l : List Int} {w wr w' : World} {k : Nat} {m : Option Nat} {e : Ending} (hk : k < l.length) (h4 : k ≤ 4096) (hcb : B ≤ cb) (hm : ∀ b, m = some b → B ≤ b) (hbe : Below B w wr) (hB : B ≤ wr.heap.size)
    (h : AddPost cb m k (dis l k) (F (l.take k)) (l.getD k 0) wr e w') : Tal B cb l w (k + 1) w' := by
  obtain ⟨_, b, hc, hf, hb⟩ := h
  rw [F_step hk h4, dis_step] at hc
  refine ⟨some b, hc, by simp, ?_, hbe.trans (hf.below hB (fun i hi h => ?_)), Nat.le_trans hB hf.size⟩
  · intro b' e
    cases e
    rcases hb with h | ⟨_, rfl⟩
    · exact hm _ h
    · exact hB
  · rcases h with h | h
    · omega
    · have := hm _ h; omega

theorem Tal.drewN {B cb : Nat} {l : List Int} {w wr : World} {k : Nat} (h : Tal B cb l w k wr) (n : Nat) : Tal B cb l w k (wr.drewN n) := by
  obtain ⟨m, hc, h1, h2, h3, h4⟩ := h
  refine ⟨m, ⟨hc.cell, hc.free, ?_⟩, h1, h2, ⟨h3.os, h3.tape, h3.output, h3.size, h3.block⟩, h4⟩
  rcases hc.map with h | ⟨b, e, hne, hM⟩
  · exact .inl h
  · exact .inr ⟨b, e, hne, hM.of_block rfl⟩

set_option maxHeartbeats 400000 in
theorem tally_nil (a : Option Addr) (c : Nat) (p : Int) (hp : Hid (Fits p)) (w : World) :
    Calls Trym.prog 4 #[.slice a 0 c, .int .u64 p] w (YesPost w) := by
  have HC : Hid (Calls Trym.prog 15 #[.slice a 0 c, .int .u64 p] w fun e w' => e = .returned (.bool true) ∧ w' = w) := bytes15 a 0 c p w (by omega)
  go_enter Trym.func4, Trym.ntmps4
  go_wp2_with fail
  refine HC.out.mono ?_
  rintro e w' ⟨rfl, rfl⟩
  clear HC
  go_wp2_with fail
  refine (of16 _ _).mono ?_
  rintro e w1 ⟨rfl, rfl⟩
  obtain ⟨m, hc, hm, -, hbe, -⟩ := tal_start w' []
  have hm0 := hm.2 rfl
  subst hm0
  have HC0 : Hid (Cnt (w'.alloc (.cells #[.map none] 67)) w'.heap.size none 0 (F []) 0) := hc
  have HB0 : Hid (Below w'.heap.size w' (w'.alloc (.cells #[.map none] 67))) := hbe
  clear hc hm hbe
  generalize w'.alloc (.cells #[.map none] 67) = W at *
  go_wp2_with fail
  refine wp_loop_rounds 1 ?_
  rw [rounds_succ]
  go_wp2_with fail
  refine (isnil18 _ none _ HC0.out.cell).mono ?_
  rintro e w1 ⟨rfl, rfl⟩
  simp only [Option.isNone_none]
  go_wp2_with fail
  refine wp_loop_rounds 1 ?_
  rw [rounds_succ]
  go_wp2_with fail
  refine wp_loop_rounds 1 ?_
  rw [rounds_succ]
  go_wp2_with fail
  refine (get19 _ none 0 0 (F []) p _ HC0 hp).mono ?_
  rintro e w1 ⟨rfl, rfl⟩
  have e1 : F [] p = none := rfl
  rw [e1]
  simp only [Option.getD_none, Option.isSome_none]
  clear e1
  go_wp2_with fail
  refine (len20 _ none 0 0 (F []) _ HC0).mono ?_
  rintro e w1 ⟨rfl, rfl⟩
  go_wp2_with fail
  go_ret
  exact ⟨rfl, HB0.out⟩
end Go.Proofs.Qxb6608597aMods
