/-
  THE LAW's OWN WALK (4).
-/
import Derived.Test.Qxb6613445aSeen
namespace Go.Proofs.Qxb6613445a
open Go.RowKit Go.Deep

theorem info50s : ∃ i, Try.prog.info? 50 = some i ∧ i.size = 1 := by
  obtain ⟨i, h1, _, h2, _⟩ := info_parts info50
  exact ⟨i, h1, h2⟩

/-- 'rules[k:]': its address, wherever k lies. -/
theorem slice_back (N len K : Nat) (hK : K ≤ len) : ∃ ba, (0 < len - K → ba = some ⟨N, K, none⟩) ∧
    ∀ w, (Instr.sliceAt 27 (.slice (some ⟨N, 0, none⟩) len len) (some (.int .i64 (K : Int))) none none).run Try.prog w = .ok (.slice ba (len - K) (len - K)) w := by
  obtain ⟨i, hi, hs⟩ := info50s
  have hadd : (⟨N, 0, none⟩ : Addr).add K = ⟨N, K, none⟩ := by unfold Addr.add; split <;> simp_all
  refine ⟨if len = K then some ⟨N, 0, none⟩ else some ⟨N, K, none⟩, fun h => by rw [if_neg (by omega)], fun w => ?_⟩
  have he : Try.prog.elem 27 = 50 := by kernel_rfl
  have hu : Try.prog.underlying 27 = some (.slice (Try.prog.elem 27)) := by rw [he]; exact Try.underlying27
  rw [run_sliceAt_slice w 27 _ _ _ _ hu, run_slice_l w 27 _ len len hu .i64 (K : Int) (by omega) (by omega)]
  simp [he, sizeOf, typeInfo, hi, hs, sliced, hadd]

section
variable (a0 : Option Addr) (len cap b o : Nat) (D : Nat → Bool) (k : Int) (w : World)

set_option maxRecDepth 100000 in
set_option maxHeartbeats 1600000 in
theorem law_in (K : Nat) (hl : len ≤ 65536) (hK : K ≤ len) (g : Bits w a0 len b o D) :
    Calls Try.prog 4 #[.slice a0 len cap, .int .i64 K] w fun e w' => e = .returned (.bool true) ∧ Below w.heap.size w w' := by
  have hby : decide ((len : Int) ≤ 1048576) = true := by simp; omega
  have hK0 : decide ((K : Int) < 0) = false := by simp
  have h65 : decide ((65536 : Int) < (len : Int)) = false := by simp; omega
  go_enter Try.func4, Try.ntmps4
  go_wp2_with fail
  refine (bytes_any _ _ _ _ _).mono ?_
  rintro e w' ⟨rfl, rfl⟩
  go_wp2_with fail
  refine (buildRun_any a0 len cap b o D _ (by omega) g).mono ?_
  rintro e w1 ⟨rfl, hB⟩
  have p1 : Ptrs w1 (some ⟨w.heap.size, 0, none⟩) len w.heap.size 0 (ruleAt w.heap.size) := ⟨fun _ => rfl, fun i hi => by
    have := hB.row.cell hi
    rw [if_pos hi] at this
    simpa using this⟩
  have d1 := hB.deny
  have HB1 : Hid (Below w.heap.size w w1) := hB.below
  clear hB
  go_wp2_with fail
  refine (seen_any _ _ _ _ _ _ _ D (by omega) p1 d1).mono ?_
  rintro e w2 ⟨va, ca, cva, ga, rfl, vA, pA, bA⟩
  have HBA : Hid (Below w1.heap.size w1 w2) := bA
  have p2 := p1.below bA
  have d2 : ∀ i, i < len → w2.cell? ⟨ruleAt w.heap.size i, 2, none⟩ = some (.bool (D i)) := fun i hi => (bA.cell (p := ⟨ruleAt w.heap.size i, 2, none⟩) (World.block_lt_of_cell? _ _ (d1 i hi))).trans (d1 i hi)
  clear bA
  go_wp2_with fail
  refine (seen_any _ _ K _ _ _ _ D (by omega) ⟨fun _ => rfl, fun i hi => p2.cell i (by omega)⟩ (fun i hi => d2 i (by omega))).mono ?_
  rintro e w3 ⟨vf, cf, cvf, gf, rfl, vF, pF, bF⟩
  have HBF : Hid (Below w2.heap.size w2 w3) := bF
  have pA3 := pA.below bF
  have p3 := p2.below bF
  have d3 : ∀ i, i < len → w3.cell? ⟨ruleAt w.heap.size i, 2, none⟩ = some (.bool (D i)) := fun i hi => (bF.cell (p := ⟨ruleAt w.heap.size i, 2, none⟩) (World.block_lt_of_cell? _ _ (d2 i hi))).trans (d2 i hi)
  clear bF p1 p2 d1 d2 pA
  obtain ⟨ba, hba, hsl⟩ := slice_back w.heap.size len K hK
  go_wp2_with fail
  refine (seen_any _ ba (len - K) _ w.heap.size K (fun i => ruleAt w.heap.size (K + i)) (fun i => D (K + i)) (by omega) ⟨hba, fun i hi => by simpa using p3.cell (K + i) (by omega)⟩ (fun i hi => d3 (K + i) (by omega))).mono ?_
  rintro e w4 ⟨vb, cb, cvb, gb, rfl, vB, pB, bB⟩
  have HW : Hid (Below w.heap.size w w4) := HB1.out.trans ((HBA.out.trans ((HBF.out.trans (bB.mono HBF.out.size)).mono HBA.out.size)).mono HB1.out.size)
  have pA := pA3.below bB
  have pF := pF.below bB
  have pR := p3.below bB
  have g' := g.below HW.out
  clear pA3 p3 d3 bB HB1 HBA HBF hba hsl
  go_wp2_with fail
  refine (firstDeny_any a0 len cap b o D _ (by omega) g').mono ?_
  rintro e w5 ⟨f, rfl, hF, rfl⟩
  have hca := vA.deny hF
  have hfl : f ≤ len := hF.1
  have hcal : ca ≤ len := vA.1
  have hcfl : cf ≤ K := vF.1
  have hcbl : cb ≤ len - K := vB.1
  have HVA : Hid (Visits D len ca) := vA
  have HVF : Hid (Visits D K cf) := vF
  have HVB : Hid (Visits (fun i => D (K + i)) (len - K) cb) := vB
  clear vA vF vB hF
  obtain ⟨want, hca', hwant⟩ : ∃ want : Int, ((ca : Int) != want) = false ∧ ((f < len ∧ want = (f : Int) + 1) ∨ (¬ f < len ∧ want = (len : Int))) := by
    by_cases hf : f < len
    · rw [if_pos hf] at hca
      exact ⟨_, by simp; omega, .inl ⟨hf, rfl⟩⟩
    · rw [if_neg hf] at hca
      exact ⟨_, by simp; omega, .inr ⟨hf, rfl⟩⟩
  clear hca
  rcases hwant with ⟨hf, rfl⟩ | ⟨hf, rfl⟩
  all_goals
    go_wp2_with fail
    go_loopw [12] (fun i wr => ∃ (j m : Nat), j ≤ ca ∧ i = .int .i64 j ∧ wr = w4.drewN m) (fun i _ => ca - (intOf i).toNat)
    case atStart => exact ⟨0, 0, Nat.zero_le _, rfl, rfl⟩
    case round =>
      obtain ⟨j, m, hj, rfl, rfl⟩ := hrel
      by_cases hlt : j < ca
      · obtain rfl := pA.ptr (by omega)
        have h1 : w4.cell? ⟨ga, j, none⟩ = some (.pointer (some ⟨ruleAt w.heap.size j, 0, none⟩)) := by simpa using pA.cell j hlt
        have h2 : w4.cell? ⟨w.heap.size, j, none⟩ = some (.pointer (some ⟨ruleAt w.heap.size j, 0, none⟩)) := by simpa using pR.cell j (by omega)
        have hq := neq_same (ruleAt w.heap.size j)
        have i1 : (j : Int) < (ca : Int) := by omega
        have i2 : (j : Int) < (len : Int) := by omega
        go_wp2
        go_quiet (fail)
        go_wp2
        go_roundw
        case rel => exact ⟨j + 1, _, by omega, by go_num, rfl⟩
        case measure => simp [intOf]; omega
      · go_wp2_with fail
        go_loopw [13] (fun i wr => ∃ (j m : Nat), j ≤ cf ∧ i = .int .i64 j ∧ wr = w4.drewN m) (fun i _ => cf - (intOf i).toNat)
        case atStart => exact ⟨0, _, Nat.zero_le _, rfl, rfl⟩
        case round =>
          clear hj hlt
          obtain ⟨j, m, hj, rfl, rfl⟩ := hrel
          by_cases hlt : j < cf
          · obtain rfl := pF.ptr (by omega)
            have h1 : w4.cell? ⟨gf, j, none⟩ = some (.pointer (some ⟨ruleAt w.heap.size j, 0, none⟩)) := by simpa using pF.cell j hlt
            have h2 : w4.cell? ⟨w.heap.size, j, none⟩ = some (.pointer (some ⟨ruleAt w.heap.size j, 0, none⟩)) := by simpa using pR.cell j (by omega)
            have hq := neq_same (ruleAt w.heap.size j)
            have i1 : (j : Int) < (cf : Int) := by omega
            have i2 : (j : Int) < (len : Int) := by omega
            go_wp2
            go_quiet (fail)
            go_wp2
            go_roundw
            case rel => exact ⟨j + 1, _, by omega, by go_num, rfl⟩
            case measure => simp [intOf]; omega
          · by_cases hcK : cf = K
            · have bK : ((cf : Int) == (K : Int)) = true := by simp; omega
              have HVK : Hid (Visits D K K) := by have h := HVF.out; rw [hcK] at h; exact h
              have HCK : Hid (cf = K) := hcK
              clear hcK
              by_cases hz : K = 0
              · have bz : ((K : Int) == 0) = true := by simp; omega
                have hcb := HVA.out.ranOn hK HVK.out (.inl hz) HVB.out
                have bcb : ((ca : Int) != (K : Int) + (cb : Int)) = false := by simp; omega
                have hcb' : K + cb ≤ ca := by omega
                clear hz hcb
                go_wp2_with fail
                go_loopw [16] (fun i wr => ∃ (j m : Nat), j ≤ cb ∧ i = .int .i64 j ∧ wr = w4.drewN m) (fun i _ => cb - (intOf i).toNat)
                case atStart => exact ⟨0, _, Nat.zero_le _, rfl, rfl⟩
                case round =>
                  clear hj hlt
                  obtain ⟨j, m, hj, rfl, rfl⟩ := hrel
                  by_cases hlt : j < cb
                  · obtain rfl := pB.ptr (by omega)
                    obtain rfl := pA.ptr (by omega)
                    have h1 : w4.cell? ⟨gb, j, none⟩ = some (.pointer (some ⟨ruleAt w.heap.size (K + j), 0, none⟩)) := by simpa using pB.cell j hlt
                    have h2 : w4.cell? ⟨ga, K + j, none⟩ = some (.pointer (some ⟨ruleAt w.heap.size (K + j), 0, none⟩)) := by simpa using pA.cell (K + j) (by omega)
                    have hq := neq_same (ruleAt w.heap.size (K + j))
                    have i1 : (j : Int) < (cb : Int) := by omega
                    have i2 : (K : Int) + (j : Int) < (ca : Int) := by omega
                    go_wp2
                    go_quiet (fail)
                    go_wp2
                    go_roundw
                    case rel => exact ⟨j + 1, _, by omega, by go_num, rfl⟩
                    case measure => simp [intOf]; omega
                  · go_wp2
                    go_ret
                    exact ⟨rfl, below_drewN HW.out _⟩
              · have bz : ((K : Int) == 0) = false := by simp; omega
                have hz1 : 1 ≤ K := by omega
                clear hz
                obtain rfl := g'.ptr (by omega)
                have hcell := g'.cell (K - 1) (by omega)
                have i3 : (K : Int) - 1 < (len : Int) := by omega
                cases hD : D (K - 1) with
                | true =>
                  rw [hD] at hcell
                  have hcc := HVA.out.stopped hK HVF.out (fun h => by rcases h.2 with h | h; · omega
                                                                      · rw [hD] at h; cases h)
                  have bcb : ((ca : Int) != (cf : Int)) = false := by simp; omega
                  have hcb' : cf ≤ ca := by omega
                  clear hD hcc
                  go_wp2_with fail
                  go_loopw [15] (fun i wr => ∃ (j m : Nat), j ≤ cf ∧ i = .int .i64 j ∧ wr = w4.drewN m) (fun i _ => cf - (intOf i).toNat)
                  case atStart => exact ⟨0, _, Nat.zero_le _, rfl, rfl⟩
                  case round =>
                    clear hj hlt
                    obtain ⟨j, m, hj, rfl, rfl⟩ := hrel
                    by_cases hlt : j < cf
                    · obtain rfl := pF.ptr (by omega)
                      obtain rfl := pA.ptr (by omega)
                      have h1 : w4.cell? ⟨gf, j, none⟩ = some (.pointer (some ⟨ruleAt w.heap.size j, 0, none⟩)) := by simpa using pF.cell j hlt
                      have h2 : w4.cell? ⟨ga, j, none⟩ = some (.pointer (some ⟨ruleAt w.heap.size j, 0, none⟩)) := by simpa using pA.cell j (by omega)
                      have hq := neq_same (ruleAt w.heap.size j)
                      have i1 : (j : Int) < (cf : Int) := by omega
                      have i2 : (j : Int) < (ca : Int) := by omega
                      go_wp2
                      go_quiet (fail)
                      go_wp2
                      go_roundw
                      case rel => exact ⟨j + 1, _, by omega, by go_num, rfl⟩
                      case measure => simp [intOf]; omega
                    · go_wp2
                      go_ret
                      exact ⟨rfl, below_drewN HW.out _⟩
                | false =>
                  rw [hD] at hcell
                  have hcb := HVA.out.ranOn hK HVK.out (.inr hD) HVB.out
                  have bcb : ((ca : Int) != (K : Int) + (cb : Int)) = false := by simp; omega
                  have hcb' : K + cb ≤ ca := by omega
                  clear hD hcb
                  go_wp2_with fail
                  go_loopw [16] (fun i wr => ∃ (j m : Nat), j ≤ cb ∧ i = .int .i64 j ∧ wr = w4.drewN m) (fun i _ => cb - (intOf i).toNat)
                  case atStart => exact ⟨0, _, Nat.zero_le _, rfl, rfl⟩
                  case round =>
                    clear hj hlt
                    obtain ⟨j, m, hj, rfl, rfl⟩ := hrel
                    by_cases hlt : j < cb
                    · obtain rfl := pB.ptr (by omega)
                      obtain rfl := pA.ptr (by omega)
                      have h1 : w4.cell? ⟨gb, j, none⟩ = some (.pointer (some ⟨ruleAt w.heap.size (K + j), 0, none⟩)) := by simpa using pB.cell j hlt
                      have h2 : w4.cell? ⟨ga, K + j, none⟩ = some (.pointer (some ⟨ruleAt w.heap.size (K + j), 0, none⟩)) := by simpa using pA.cell (K + j) (by omega)
                      have hq := neq_same (ruleAt w.heap.size (K + j))
                      have i1 : (j : Int) < (cb : Int) := by omega
                      have i2 : (K : Int) + (j : Int) < (ca : Int) := by omega
                      go_wp2
                      go_quiet (fail)
                      go_wp2
                      go_roundw
                      case rel => exact ⟨j + 1, _, by omega, by go_num, rfl⟩
                      case measure => simp [intOf]; omega
                    · go_wp2
                      go_ret
                      exact ⟨rfl, below_drewN HW.out _⟩
            · have bK : ((cf : Int) == (K : Int)) = false := by simp; omega
              have hcc := HVA.out.stopped hK HVF.out (fun h => hcK h.1)
              have bcb : ((ca : Int) != (cf : Int)) = false := by simp; omega
              have hcb' : cf ≤ ca := by omega
              clear hcc hcK
              go_wp2_with fail
              go_loopw [15] (fun i wr => ∃ (j m : Nat), j ≤ cf ∧ i = .int .i64 j ∧ wr = w4.drewN m) (fun i _ => cf - (intOf i).toNat)
              case atStart => exact ⟨0, _, Nat.zero_le _, rfl, rfl⟩
              case round =>
                clear hj hlt
                obtain ⟨j, m, hj, rfl, rfl⟩ := hrel
                by_cases hlt : j < cf
                · obtain rfl := pF.ptr (by omega)
                  obtain rfl := pA.ptr (by omega)
                  have h1 : w4.cell? ⟨gf, j, none⟩ = some (.pointer (some ⟨ruleAt w.heap.size j, 0, none⟩)) := by simpa using pF.cell j hlt
                  have h2 : w4.cell? ⟨ga, j, none⟩ = some (.pointer (some ⟨ruleAt w.heap.size j, 0, none⟩)) := by simpa using pA.cell j (by omega)
                  have hq := neq_same (ruleAt w.heap.size j)
                  have i1 : (j : Int) < (cf : Int) := by omega
                  have i2 : (j : Int) < (ca : Int) := by omega
                  go_wp2
                  go_quiet (fail)
                  go_wp2
                  go_roundw
                  case rel => exact ⟨j + 1, _, by omega, by go_num, rfl⟩
                  case measure => simp [intOf]; omega
                · go_wp2
                  go_ret
                  exact ⟨rfl, below_drewN HW.out _⟩

set_option maxRecDepth 100000 in
set_option maxHeartbeats 800000 in
theorem law_any (hm : len ≤ 9223372036854775807) (g : Bits w a0 len b o D) :
    Calls Try.prog 4 #[.slice a0 len cap, .int .i64 k] w fun e w' => e = .returned (.bool true) ∧ Below w.heap.size w w' := by
  by_cases h1 : len ≤ 1048576
  · have hby : decide ((len : Int) ≤ 1048576) = true := by simp; omega
    by_cases h2 : len ≤ 65536
    · by_cases h3 : k < 0
      · go_enter Try.func4, Try.ntmps4
        go_wp2_with (go_at_call 18; refine (bytes_any _ _ _ _ _).mono ?_; rintro e w' ⟨rfl, rfl⟩)
        go_ret
        exact ⟨rfl, Below.refl _ _⟩
      · by_cases h4 : (len : Int) < k
        · have hd : decide (k < 0) = false := by simpa using h3
          go_enter Try.func4, Try.ntmps4
          go_wp2_with (go_at_call 18; refine (bytes_any _ _ _ _ _).mono ?_; rintro e w' ⟨rfl, rfl⟩)
          go_ret
          exact ⟨rfl, Below.refl _ _⟩
        · obtain ⟨K, rfl⟩ := Int.eq_ofNat_of_zero_le (show 0 ≤ k by omega)
          exact law_in a0 len cap b o D w K h2 (by omega) g
    · have h2' : 65536 < len := by omega
      clear h2
      go_enter Try.func4, Try.ntmps4
      go_wp2_with (go_at_call 18; refine (bytes_any _ _ _ _ _).mono ?_; rintro e w' ⟨rfl, rfl⟩)
      go_ret
      exact ⟨rfl, Below.refl _ _⟩
  · have hby : decide ((len : Int) ≤ 1048576) = false := by simp; omega
    go_enter Try.func4, Try.ntmps4
    go_wp2_with (go_at_call 18; refine (bytes_any _ _ _ _ _).mono ?_; rintro e w' ⟨rfl, rfl⟩)
    go_ret
    exact ⟨rfl, Below.refl _ _⟩
end
end Go.Proofs.Qxb6613445a
