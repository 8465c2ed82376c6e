/-
  THE ROW OF FnLadderBestIsTheHighestLevelHoweverCut, out of its walk.
-/
import Derived.Test.Qxb6613111aRows
import Derived.Test.Qxb6613111aLawA
import Derived.WalkKit
import Derived.ProofKit
import Derived.ChangeOld
import Derived.Below
import Derived.Deep.Matrix
namespace Go.Proofs.Qxb6613111a
open Go.ChangeShapes Go.WideShapes Go.ChangeAt Go.RowKit Go.Deep
set_option linter.unusedVariables false

theorem own : ownKnob Try.prog.godebug = none := by kernel_rfl
theorem laidOut : laidOutB Try.prog = true := by kernel_rfl
theorem cells24 : Try.prog.cellsOf 24 = 1 := by kernel_rfl
theorem cells2 : Try.prog.cellsOf 2 = 1 := by kernel_rfl

/-- WHAT THE WALKS ARE TOLD OF THE ROWS THAT CAME IN. -/
def IsGrid (w : World) (a0 : Option Addr) (len : Nat) : Prop :=
  len = 0 ∨ (0 < len ∧ len ≤ 9223372036854775807 ∧ ∃ b o A L C Ab Ao Z, a0 = some ⟨b, o, none⟩ ∧ Grid w b o len A L C Ab Ao Z)

theorem isGrid_of {H : Type} {enc : TypeId × Value → H} {w : World} {base : Nat} {held : Bool} {a0 : Option Addr} {len cap fuel : Nat} {x : DataW H × List MemPlace}
    (h : DataW.trod enc Try.prog w base (fun _ => true) held fuel 22 [.slice a0 len cap] = some x) : IsGrid w a0 len := by
  rcases open_int_rows Try.underlying22 Try.underlying24 Try.underlying2 cells24 cells2 h with ⟨hcs, _⟩ | ⟨a, len', cap', A, L, C, Z, hcs, _, hl, hm, _, hrows⟩
  · simp at hcs
    exact .inl hcs.2.1
  · simp at hcs
    obtain ⟨rfl, rfl, rfl⟩ := hcs
    by_cases h0 : len = 0
    · exact .inl h0
    · right
      obtain ⟨b, o, spot⟩ := a
      have hs : spot = none := by simpa [Addr.add] using World.cell?_spot (hrows 0 (by omega)).1
      subst hs
      unfold maxLen at hm
      refine ⟨by omega, by omega, b, o, A, L, C, (fun r => ((A r).getD default).block), (fun r => ((A r).getD default).off), (fun r c => (Z r).getD c 0), rfl, fun r hr => ?_, fun r hr c hc => ?_⟩
      · rw [← add_plain]; exact (hrows r (by omega)).1
      · obtain ⟨_, h1, _, _, _, h3, h4⟩ := hrows r (by omega)
        cases hA : A r with
        | none => have := h3 hA; omega
        | some a' =>
          obtain ⟨_, hcell⟩ := h4 a' hA
          obtain ⟨b', o', sp⟩ := a'
          have hs : sp = none := by simpa [Addr.add] using World.cell?_spot (hcell 0 (by omega))
          subst hs
          exact ⟨by simp, by simp only [Option.getD_some]; rw [← add_plain]; exact hcell c (by omega)⟩

theorem lawA (a0 : Option Addr) (len cap : Nat) (w : World) (h : IsGrid w a0 len) :
    Calls Try.prog 3 #[.slice a0 len cap] w fun e w' => e = .returned (.bool true) ∧ Below w.heap.size w w' := by
  rcases h with rfl | ⟨h0, hl, b, o, A, L, C, Ab, Ao, Z, rfl, g⟩
  · exact lawA_zero a0 cap w
  · exact lawA_pos b o len cap A L C Ab Ao Z w h0 hl g

set_option maxRecDepth 100000 in
theorem liftedA (os : Os) (started : os.Started) (H : Type) (enc : TypeId × Value → H) :
    ReturnsInHanded {} Try.checked os 3 .any (Rows.fnLadderBestIsTheHighestLevelHoweverCutSpec.pre6 enc Try.prog Try.f3 Rows.fnLadderBestIsTheHighestLevelHoweverCutRow.domain false) (Rows.fnLadderBestIsTheHighestLevelHoweverCutSpec.post enc Try.prog Try.f3 false true false false) := by
  refine returnsInHanded_of_change (C := Try.checked) own started (by kernel_rfl) Try.func3
    (ChangeSpec.witness6 (enc := enc) (C := Try.checked) false ⟨#[], #[.slice none 0 0], []⟩ 8 (by kernel_rfl) (by kernel_rfl) (by kernel_rfl) (by kernel_rfl)) ?_
  intro W base args ds gs before hval0 hW hcnd _
  have hval : ∀ (j : Nat) t v, Try.f3.params[j]? = some t → args[j]? = some v → Value.okWide Try.prog W .any base t v := hval0
  have hW' := hW
  obtain ⟨p, q, hA0, hV, rfl, hfz, hnd⟩ := hW
  have hA : DataW.TrodAll enc Try.prog W 0 (fun _ => true) true Try.f3.params.toList args.toList ds p := hA0
  rw [Try.params3] at hA hval
  obtain ⟨v0, vs0, d0, ds0, p0, q0, hargs, rfl, rfl, h0, r0⟩ := trodAll_cons hA
  obtain ⟨rfl, rfl, rfl⟩ := trodAll_nil r0
  obtain rfl : args = #[v0] := by cases args; simp_all
  obtain ⟨rfl, rfl⟩ := trodVars_none hV
  obtain ⟨a0, len0, cap0, rfl⟩ := okWide_slice Try.underlying22 (hval 0 22 v0 rfl rfl)
  have k0 := h0
  have lt0 : ∀ x ∈ p0, x.block < W.heap.size := by obtain ⟨m, hm⟩ := k0; exact DataW.trod_lt m _ _ _ hm
  have w0 : IsGrid W a0 len0 := by
    obtain ⟨fuel, hf⟩ := h0
    exact isGrid_of (by simpa [Value.cells] using hf)
  clear hA0 hval0
  refine (lawA a0 len0 cap0 W w0).mono fun e W' ⟨he, bel⟩ => ?_
  subst he
  exact ⟨_, rfl, _, _, _, [], _, [], hW', trodAll_mk1 (shut_bool Try.underlying4 _), (trodAll_mk1 (Below.trod laidOut (by kernel_rfl) (of_decide_eq_true (by kernel_rfl)) k0 bel lt0)), rfl, bel.frame _, fun h => by cases h⟩

theorem overA : Rows.fnLadderBestIsTheHighestLevelHoweverCutRow.holds Try.pinned (OpenSpec.ofChange Rows.fnLadderBestIsTheHighestLevelHoweverCutSpec) :=
  OpenClaim.holds_of_wide 3 Try.f3 rfl rfl rfl rfl rfl rfl rfl ⟨rfl, rfl, rfl, rfl, rfl⟩ rfl rfl rfl rfl rfl (by kernel_rfl) Try.func3 (by kernel_rfl)
    (of_decide_eq_true (by kernel_rfl)) (by unfold Func.isWrapper; first | (rw [if_pos (by decide +kernel)]; kernel_rfl) | (rw [if_neg (by decide +kernel)]; exact ⟨rfl, rfl⟩))
    (fun os started H enc _ => liftedA os started H enc)

theorem ladderBestCut : Rows.FnLadderBestIsTheHighestLevelHoweverCutSaid :=
  overA
end Go.Proofs.Qxb6613111a
