/-
  THE ROW OF FnEachUntilAtAnyCutRunsOnIntoTheSecondPartOnlyIfTheFirstRanOut, out of its walk.
-/
import Derived.Test.Qxb6613445aRows
import Derived.Test.Qxb6613445aLaw
import Derived.WalkKit
import Derived.ProofKit
import Derived.ChangeOld
import Derived.Below
import Derived.Deep.Slices
namespace Go.Proofs.Qxb6613445a
open Go.ChangeShapes Go.WideShapes Go.ChangeAt Go.RowKit Go.Deep
set_option linter.unusedVariables false

theorem own : ownKnob Try.prog.godebug = none := by kernel_rfl
theorem laidOut : laidOutB Try.prog = true := by kernel_rfl
theorem cells4 : Try.prog.cellsOf 4 = 1 := by kernel_rfl

/-- What the walk is told of the bools that came in. -/
theorem bits_of {H : Type} {enc : TypeId × Value → H} {w : World} {base : Nat} {held : Bool} {a0 : Option Addr} {len cap fuel : Nat} {x : DataW H × List MemPlace}
    (h : DataW.trod enc Try.prog w base (fun _ => true) held fuel 45 [.slice a0 len cap] = some x) : len ≤ 9223372036854775807 ∧ ∃ b o D, Bits w a0 len b o D := by
  rcases open_slice1 Try.underlying45 cells4 h with ⟨hcs, _⟩ | ⟨a, len', cap', m, n, V, D, Pl, hcs, hb, hl, hm, hmm, _, hx⟩
  · simp at hcs
    obtain ⟨rfl, rfl, rfl⟩ := hcs
    exact ⟨by omega, 0, 0, fun _ => false, fun h => absurd h (Nat.not_lt_zero _), fun i hi => absurd hi (Nat.not_lt_zero _)⟩
  · simp at hcs
    obtain ⟨rfl, rfl, rfl⟩ := hcs
    simp only [if_true] at hmm
    have hmm' := hmm.symm
    subst hmm'
    unfold maxLen at hm
    have each : ∀ i, i < cap → ∃ y : Bool, V i = .bool y := fun i hi => by
      obtain ⟨y, hy, _⟩ := DataW.trod_bool Try.underlying4 (hx i hi).2
      exact ⟨y, by simpa using hy⟩
    obtain ⟨y, hy⟩ := choose_lt each
    obtain ⟨b, o, spot⟩ := a
    refine ⟨by omega, b, o, y, fun h0 => ?_, fun i hi => ?_⟩
    · have hs : spot = none := by simpa [Addr.add] using World.cell?_spot (hx 0 (by omega)).1
      rw [hs]
    · have hs : spot = none := by simpa [Addr.add] using World.cell?_spot (hx 0 (by omega)).1
      subst hs
      rw [← add_plain, (hx i (by omega)).1, hy i (by omega)]

set_option maxRecDepth 100000 in
theorem lifted (os : Os) (started : os.Started) (H : Type) (enc : TypeId × Value → H) :
    ReturnsInHanded {} Try.checked os 4 .any (Rows.fnEachUntilAtAnyCutRunsOnIntoTheSecondPartOnlyIfTheFirstRanOutSpec.pre6 enc Try.prog Try.f4 Rows.fnEachUntilAtAnyCutRunsOnIntoTheSecondPartOnlyIfTheFirstRanOutRow.domain false) (Rows.fnEachUntilAtAnyCutRunsOnIntoTheSecondPartOnlyIfTheFirstRanOutSpec.post enc Try.prog Try.f4 false true false false) := by
  refine returnsInHanded_of_change (C := Try.checked) own started (by kernel_rfl) Try.func4
    (ChangeSpec.witness6 (enc := enc) (C := Try.checked) false ⟨#[], #[.slice none 0 0, .int .i64 0], []⟩ 8 (by kernel_rfl) (by kernel_rfl) (by kernel_rfl) (by kernel_rfl)) ?_
  intro W base args ds gs before hval0 hW hcnd _
  have hval : ∀ (j : Nat) t v, Try.f4.params[j]? = some t → args[j]? = some v → Value.okWide Try.prog W .any base t v := hval0
  have hW' := hW
  obtain ⟨p, q, hA0, hV, rfl, hfz, hnd⟩ := hW
  have hA : DataW.TrodAll enc Try.prog W 0 (fun _ => true) true Try.f4.params.toList args.toList ds p := hA0
  rw [Try.params4] at hA hval
  obtain ⟨v0, vs0, d0, ds0, p0, q0, hargs, rfl, rfl, h0, r0⟩ := trodAll_cons hA
  obtain ⟨v1, vs1, d1, ds1, p1, q1, rfl, rfl, rfl, h1, r1⟩ := trodAll_cons r0
  obtain ⟨rfl, rfl, rfl⟩ := trodAll_nil r1
  obtain rfl : args = #[v0, v1] := by cases args; simp_all
  obtain ⟨rfl, rfl⟩ := trodVars_none hV
  obtain ⟨a0, len0, cap0, rfl⟩ := okWide_slice Try.underlying45 (hval 0 45 v0 rfl rfl)
  have k0 := h0
  have lt0 : ∀ x ∈ p0, x.block < W.heap.size := by obtain ⟨m, hm⟩ := k0; exact DataW.trod_lt m _ _ _ hm
  obtain ⟨hl, b, o, D, w0⟩ : len0 ≤ 9223372036854775807 ∧ ∃ b o D, Bits W a0 len0 b o D := by
    obtain ⟨fuel, hf⟩ := h0
    exact bits_of (by simpa [Value.cells] using hf)
  obtain ⟨a1, rfl, rfl, rfl, w1⟩ := open_int Try.underlying3 (hval 1 3 v1 rfl rfl) h1
  clear hA0 hval0
  refine (law_any a0 len0 cap0 b o D a1 W hl w0).mono fun e W' ⟨he, bel⟩ => ?_
  subst he
  exact ⟨_, rfl, _, _, _, [], _, [], hW', trodAll_mk1 (shut_bool Try.underlying4 _), (trodAll_mk2 (Below.trod laidOut (by kernel_rfl) (of_decide_eq_true (by kernel_rfl)) k0 bel lt0) (shut_int Try.underlying3 w1)), rfl, bel.frame _, fun h => by cases h⟩

theorem over : Rows.fnEachUntilAtAnyCutRunsOnIntoTheSecondPartOnlyIfTheFirstRanOutRow.holds Try.pinned (OpenSpec.ofChange Rows.fnEachUntilAtAnyCutRunsOnIntoTheSecondPartOnlyIfTheFirstRanOutSpec) :=
  OpenClaim.holds_of_wide 4 Try.f4 rfl rfl rfl rfl rfl rfl rfl ⟨rfl, rfl, rfl, rfl, rfl⟩ rfl rfl rfl rfl rfl (by kernel_rfl) Try.func4 (by kernel_rfl)
    (of_decide_eq_true (by kernel_rfl)) (by unfold Func.isWrapper; first | (rw [if_pos (by decide +kernel)]; kernel_rfl) | (rw [if_neg (by decide +kernel)]; exact ⟨rfl, rfl⟩))
    (fun os started H enc _ => lifted os started H enc)

theorem eachUntilAtAnyCut : Rows.FnEachUntilAtAnyCutRunsOnIntoTheSecondPartOnlyIfTheFirstRanOutSaid :=
  over
end Go.Proofs.Qxb6613445a
