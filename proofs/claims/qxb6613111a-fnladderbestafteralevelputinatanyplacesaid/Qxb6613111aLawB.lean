/-
  FnLadderBestAfterALevelPutInAtAnyPlace (4): the walk, some row there.
-/
import Derived.Test.Qxb6613111aLawA
namespace Go.Proofs.Qxb6613111a
open Go.RowKit Go.Deep

/-- WHAT 'grown' IS: n rows, 'last' the last of them. -/
structure Grow (w2 wr : World) (v : Value) (n : Nat) (last : Value) : Prop where
  below : Below w2.heap.size w2 wr
  own : ∃ xs, wr.ownsRow w2.heap.size 28 1 v n xs ∧ (0 < n → xs[n - 1]? = some last)

theorem grow_step {w2 wr w3 : World} {v v' last y : Value} {n : Nat} {xs : List Value} (hs : Grow w2 wr v n last) (hx : wr.ownsRow w2.heap.size 28 1 v n xs)
    (h2 : w3.ownsRow w2.heap.size 28 1 v' (n + 1) (xs ++ [y])) (hg : (wr.alloc (.cells #[y] 28)).grownBy w3 v.ownBlock) : Grow w2 w3 v' (n + 1) y := by
  have hsz := hs.below.size
  have hlen : xs.length = n := by simpa using hx.1
  refine ⟨(hs.below.alloc hsz _).grown hg (by simp; omega) (fun k hk => (hx.lt k hk).1), _, h2, fun _ => ?_⟩
  rw [Nat.add_sub_cancel, List.getElem?_append_right (by omega), hlen]
  simp

theorem grow_step2 {w2 wr w3 : World} {v v' last lv : Value} {n : Nat} {xs : List Value} (hs : Grow w2 wr v n last) (hx : wr.ownsRow w2.heap.size 28 1 v n xs)
    (h2 : w3.ownsRow w2.heap.size 28 1 v' (n + 1) (xs ++ [.slice (some ⟨wr.heap.size, 0, none⟩) 1 1]))
    (hg : ((wr.alloc (.cells #[lv] 27)).alloc (.cells #[.slice (some ⟨wr.heap.size, 0, none⟩) 1 1] 28)).grownBy w3 v.ownBlock) :
    Grow w2 w3 v' (n + 1) (.slice (some ⟨wr.heap.size, 0, none⟩) 1 1) ∧ w3.cell? ⟨wr.heap.size, 0, none⟩ = some lv := by
  have hsz := hs.below.size
  have hlen : xs.length = n := by simpa using hx.1
  refine ⟨⟨((hs.below.alloc hsz _).alloc (by simp; omega) _).grown hg (by simp; omega) (fun k hk => (hx.lt k hk).1), _, h2, fun _ => ?_⟩, ?_⟩
  · rw [Nat.add_sub_cancel, List.getElem?_append_right (by omega), hlen]
    simp
  · refine hg.cell ?_ ?_
    · refine cell_alloc_old _ ?_
      simp
    · intro e
      have := (hx.lt wr.heap.size e.symm).2
      omega

theorem add_zero_off (g j : Nat) : (⟨g, 0, none⟩ : Addr).add j = ⟨g, j, none⟩ := by unfold Addr.add; split <;> simp_all

theorem newLevel_own (k : Int) (w : World) :
    Calls Try.prog 13 #[.int .i64 k] w fun e w' => e = .returned (.pointer (some ⟨w.heap.size, 0, none⟩)) ∧ Below w.heap.size w w' ∧ w'.cell? ⟨w.heap.size, 4, none⟩ = some (.int .i64 k) ∧ w'.heap.size = w.heap.size + 1 := by
  refine (newLevel_any k w).mono ?_
  rintro e w' ⟨rfl, rfl⟩
  exact ⟨rfl, (Below.refl _ _).alloc (Nat.le_refl _) _, by simp [lvCells], by simp⟩

/-- WHAT THE LAST RUN IS WHEN THE ROWS UP TO j ARE IN. -/
def Last (B q : Nat) (L : Nat → Nat) (P j : Nat) (last : Value) (wr : World) : Prop :=
  (j = P ∧ ∃ h, last = .slice (some ⟨h, 0, none⟩) 1 1 ∧ wr.cell? ⟨h, 0, none⟩ = some (.pointer (some ⟨q, 0, none⟩))) ∨ (P < j ∧ last = .slice (some ⟨rowAt B L (j - 1), 0, none⟩) (L (j - 1)) (L (j - 1)))

section
variable (b o len cap : Nat) (A : Nat → Option Addr) (L C Ab Ao : Nat → Nat) (Z : Nat → Nat → Int) (p x : Int) (w : World)

set_option maxRecDepth 100000 in
set_option maxHeartbeats 1600000 in
theorem lawB_pos (hl0 : 0 < len) (hl : len ≤ 9223372036854775807) (g : Grid w b o len A L C Ab Ao Z) :
    Calls Try.prog 4 #[.slice (some ⟨b, o, none⟩) len cap, .int .i64 p, .int .i64 x] w fun e w' => e = .returned (.bool true) ∧ Below w.heap.size w w' := by
  go_enter Try.func4, Try.ntmps4
  go_wp2_with fail
  refine (bytes12_any b o len cap A L C Ab Ao Z _ p x hl g).mono ?_
  rintro e w' ⟨r, rfl, hr, rfl⟩
  cases r with
  | false =>
    clear hr
    go_wp2
    go_ret
    exact ⟨rfl, Below.refl _ _⟩
  | true =>
    obtain ⟨hle, hL⟩ := hr rfl
    clear hr
    go_wp2
    go_loop [7, 36] (fun t i => ∃ (k : Nat) (z : Int), k ≤ len ∧ i = .int .i64 k ∧ t = .int .i64 z) (fun _ i => len - (intOf i).toNat)
    case atStart => exact ⟨0, _, Nat.zero_le _, rfl, rfl⟩
    case round =>
      obtain ⟨k, z, hk, rfl, rfl⟩ := hrel
      by_cases hlt : k < len
      · have hc := g.row k hlt
        go_wp2
        · go_ret
          exact ⟨rfl, Below.refl _ _⟩
        · go_round
          case rel => exact ⟨k + 1, _, by omega, by go_num, rfl⟩
          case measure => simp [intOf]; omega
      by_cases hp0 : p < 0
      · go_wp2
        go_ret
        exact ⟨rfl, Below.refl _ _⟩
      by_cases hp1 : (len : Int) < p
      · have hd : decide (p < 0) = false := by simpa using hp0
        go_wp2
        go_ret
        exact ⟨rfl, Below.refl _ _⟩
      obtain ⟨P, rfl⟩ := Int.eq_ofNat_of_zero_le (show 0 ≤ p by omega)
      have hPl : P ≤ len := by omega
      clear hp0 hp1
      go_wp2_with fail
      refine (shape_any b o len cap A L C Ab Ao Z _ hle hL g).mono ?_
      rintro e w' ⟨r, rfl, hr, rfl⟩
      cases r with
      | false =>
        clear hr
        go_wp2
        go_ret
        exact ⟨rfl, Below.refl _ _⟩
      | true =>
        have hR := hr rfl
        clear hr
        go_wp2_with fail
        go_loop [60] (fun i => ∃ k : Nat, k ≤ len ∧ i = .int .i64 k) (fun i => len - (intOf i).toNat)
        case atStart => exact ⟨0, Nat.zero_le _, rfl⟩
        case round =>
          obtain ⟨k, hk, rfl⟩ := hrel
          by_cases hlt : k < len
          · have hc := g.rowP hlt (hR k hlt).1
            have hLk := hL k hlt
            have hkey := g.key k hlt
            go_wp2_with fail
            clear hc
            go_loop [67] (fun i => ∃ c : Nat, c ≤ L k ∧ i = .int .i64 c) (fun i => L k - (intOf i).toNat)
            case atStart => exact ⟨0, Nat.zero_le _, rfl⟩
            case round =>
              obtain ⟨c, hcL, rfl⟩ := hrel
              by_cases hlc : c < L k
              · have hcell := (hkey c hlc).2
                clear hkey
                by_cases hkP : k < P
                · by_cases hx : x ≤ Z k c
                  · go_wp2
                    go_ret
                    exact ⟨rfl, Below.refl _ _⟩
                  · go_wp2
                    go_round
                    case rel => exact ⟨c + 1, by omega, by go_num⟩
                    case measure => simp [intOf]; omega
                · by_cases hx : Z k c ≤ x
                  · go_wp2
                    go_ret
                    exact ⟨rfl, Below.refl _ _⟩
                  · go_wp2
                    go_round
                    case rel => exact ⟨c + 1, by omega, by go_num⟩
                    case measure => simp [intOf]; omega
              · clear hkey
                go_wp2
                go_round
                case rel => exact ⟨k + 1, by omega, by go_num⟩
                case measure => simp [intOf]; omega
          · go_wp2_with fail
            refine (levels_any b o len cap A L C Ab Ao Z _ hl0 hle hL (fun i hi => (hR i hi).1) g).mono ?_
            rintro e w1 ⟨rfl, hO⟩
            have g' := g.below hO.below
            go_wp2_with fail
            go_loop [15, 16, 93] (fun t tk i => ∃ (k : Nat) (u : Option Addr) (z : Int), k ≤ len ∧ i = .int .i64 k ∧ t = .pointer u ∧ tk = .int .i64 z ∧ Ahead w.heap.size L Z k 0 k u z) (fun _ _ i => len - (intOf i).toNat)
            case atStart => exact ⟨0, none, 0, Nat.zero_le _, rfl, rfl, rfl, .inl ⟨rfl, rfl, rfl, rfl⟩⟩
            case round =>
              obtain ⟨k, u, z, hk, rfl, rfl, rfl, hA⟩ := hrel
              by_cases hlt : k < len
              · have hc := g'.rowP hlt (hR k hlt).1
                have hLk := hL k hlt
                go_wp2_with fail
                clear hc
                go_loop [15, 16, 100] (fun t tk i => ∃ (c : Nat) (u : Option Addr) (z : Int), c ≤ L k ∧ i = .int .i64 c ∧ t = .pointer u ∧ tk = .int .i64 z ∧ Ahead w.heap.size L Z k c (k + c) u z) (fun _ _ i => L k - (intOf i).toNat)
                case atStart => exact ⟨0, u, z, Nat.zero_le _, rfl, rfl, rfl, hA⟩
                case round =>
                  clear hA
                  obtain ⟨c, u, z, hcL, rfl, rfl, rfl, hA⟩ := hrel
                  by_cases hlc : c < L k
                  · have hcell := (g'.key k hlt c hlc).2
                    have hlv : w1.cell? ⟨w.heap.size, k, none⟩ = some (.slice (some ⟨rowAt w.heap.size L k, 0, none⟩) (L k) (L k)) := by
                      simpa [topF, hlt] using hO.top.cell hlt
                    have hlp : w1.cell? ⟨rowAt w.heap.size L k, c, none⟩ = some (.pointer (some ⟨rowAt w.heap.size L k + 1 + c, 0, none⟩)) := (hO.row k hlt).cell hlc
                    have hrise := (hR k hlt).2 c hlc
                    rcases hA with ⟨hk0, hc0, hn0, rfl⟩ | ⟨hn0, rfl, hz⟩
                    · clear hrise hk0 hc0 hn0
                      go_wp2
                      go_round
                      case rel => exact ⟨c + 1, some ⟨rowAt w.heap.size L k + 1 + c, 0, none⟩, Z k c, by omega, by go_num, rfl, rfl, .inr ⟨by omega, by rw [prevB_succ], by rw [prevK_succ]⟩⟩
                      case measure => simp [intOf]; omega
                    · have hzl : z < Z k c := by
                        rcases hrise with ⟨h1, h2⟩ | h1
                        · omega
                        · omega
                      clear hz hrise
                      go_wp2
                      go_round
                      case rel => exact ⟨c + 1, some ⟨rowAt w.heap.size L k + 1 + c, 0, none⟩, Z k c, by omega, by go_num, rfl, rfl, .inr ⟨by omega, by rw [prevB_succ], by rw [prevK_succ]⟩⟩
                      case measure => simp [intOf]; omega
                  · have HC : Hid (c = L k) := by show c = L k; omega
                    have hp := (hR k hlt).1
                    have HA : Hid (Ahead w.heap.size L Z k c (k + c) u z) := hA
                    clear hA
                    go_wp2
                    go_round
                    case rel =>
                      refine ⟨k + 1, u, z, by omega, by go_num, rfl, rfl, ?_⟩
                      have e := HC.out
                      rcases HA.out with ⟨_, h2, _⟩ | ⟨h1, h2, h3⟩
                      · omega
                      · exact .inr ⟨by omega, by rw [h2, e, prevB_next _ L k hp], by rw [h3, e, prevK_next L Z k hp]⟩
                    case measure => simp [intOf]; omega
              · have hkl : k = len := by omega
                subst hkl
                have hp := (hR (k - 1) (by omega)).1
                have hLl := hL (k - 1) (by omega)
                obtain ⟨rfl, hz⟩ : u = some ⟨prevB w.heap.size L k 0, 0, none⟩ ∧ z = prevK L Z k 0 := by
                  rcases hA with ⟨h1, _⟩ | ⟨_, h1⟩
                  · omega
                  · exact h1
                clear hA hz g'
                go_wp2_with fail
                refine (newLevel_own _ _).mono ?_
                rintro e w2 ⟨rfl, hb2, hk2, hs2⟩
                have HS2 : Hid (w2.heap.size = w1.heap.size + 1) := hs2
                clear hs2
                obtain ⟨i0, hi, hz0, hz1, hz2⟩ := info_parts info28
                go_wp2_with (at_make; refine wpList_make_own _ rfl _ _ 25 rfl w2.heap.size 28 i0 (.slice none 0 0) 1 Try.underlying25 hi hz0 hz1 .i64 .i64 _ (k + 1) rfl rfl ?_ ?_ ?_ (Nat.le_refl _) ?_)
                · omega
                · rw [hz2]; omega
                · unfold maxLen; omega
                intro w3 hown3 hgrow3
                go_wp2_with fail
                have hG0 : Grow w2 w3 (.slice (some ⟨w2.heap.size, 0, none⟩) 0 (k + 1)) 0 .nilIface := ⟨(Below.refl _ _).grown hgrow3 (Nat.le_refl _) (fun _ h => by cases h), [], hown3, fun h => absurd h (Nat.not_lt_zero _)⟩
                clear hown3 hgrow3
                -- the levels, in whatever world comes behind
                have e0 : ∀ W, Below w1.heap.size w1 W → ∀ j, j < k → W.cell? ⟨w.heap.size, j, none⟩ = some (.slice (some ⟨rowAt w.heap.size L j, 0, none⟩) (L j) (L j)) := fun W hW j hj => by
                  rw [hW.cell (p := ⟨w.heap.size, j, none⟩) hO.top.lt, hO.top.cell hj]
                  simp only [topF]
                  rw [if_pos hj]
                have e2 : ∀ W, Below w1.heap.size w1 W → W.cell? ⟨rowAt w.heap.size L (k - 1), L (k - 1) - 1, none⟩ = some (.pointer (some ⟨prevB w.heap.size L k 0, 0, none⟩)) := fun W hW => by
                  rw [hW.cell (p := ⟨rowAt w.heap.size L (k - 1), L (k - 1) - 1, none⟩) (hO.row (k - 1) (by omega)).lt, (hO.row (k - 1) (by omega)).cell (show L (k - 1) - 1 < L (k - 1) by omega)]
                  simp [lvPtr, prevB]
                have HO : Hid (Below w.heap.size w w1) := hO.below
                have e5 : ∀ W, Below w2.heap.size w2 W → Below w1.heap.size w1 W := fun W hW => hb2.trans (hW.mono hb2.size)
                clear hO hR hL g
                go_loopw [22, 23] (fun v i wr => ∃ (j : Nat) (last : Value), j ≤ P ∧ i = .int .i64 j ∧ Grow w2 wr v j last) (fun _ i _ => P - (intOf i).toNat)
                case atStart => exact ⟨0, _, Nat.zero_le _, rfl, hG0⟩
                case round =>
                  obtain ⟨j, last, hj, rfl, hG⟩ := hrel
                  clear hG0
                  obtain ⟨xs, hown, _⟩ := hG.own
                  have hbs := hG.below.size
                  by_cases hjP : j < P
                  · have hlv := e0 _ (e5 _ hG.below) j (by omega)
                    go_wp2_with (at_builtin; refine wpList_append_own _ rfl (.tmp 133) (.tmp 138) 25 rfl w2.heap.size 28 i0 (.slice none 0 0) 1 24 Try.underlying25 hi hz0 hz1 hz2 rfl (by decide) _ j xs rfl (hown.alloc _) ⟨wr.heap.size, 0, none⟩ 1 1 [.slice (some ⟨rowAt w.heap.size L j, 0, none⟩) (L j) (L j)] rfl rfl ?_ ?_ ?_ ?_ ?_ ?_)
                    · exact cell_one_new _ _ _
                    · exact one_slice _ _ _
                    · unfold maxLen; omega
                    · omega
                    · simp; omega
                    intro v' w4 hown' hgrow _
                    have R := grow_step hG hown hown' hgrow
                    clear hown' hgrow hown hG hlv
                    go_wp2
                    go_roundw
                    case rel => exact ⟨j + 1, _, by omega, by go_num, R⟩
                    case measure => simp [intOf]; omega
                  · go_wp2_with (at_builtin; refine wpList_append_own _ rfl (.tmp 140) (.tmp 143) 25 rfl w2.heap.size 28 i0 (.slice none 0 0) 1 24 Try.underlying25 hi hz0 hz1 hz2 rfl (by decide) _ j xs rfl ((hown.alloc _).alloc _) ⟨wr.heap.size + 1, 0, none⟩ 1 1 [.slice (some ⟨wr.heap.size, 0, none⟩) 1 1] rfl rfl ?_ ?_ ?_ ?_ ?_ ?_)
                    · exact cell_two_one _ _ _ _ _
                    · exact one_slice _ _ _
                    · unfold maxLen; omega
                    · omega
                    · simp; omega
                    intro v' w4 hown' hgrow _
                    obtain ⟨hG4, hh⟩ := grow_step2 hG hown hown' hgrow
                    have HJ : Hid (j = P) := by show j = P; omega
                    clear hown' hgrow hown hG hj hjP
                    go_wp2_with fail
                    go_loopw [22, 24] (fun v i wr => ∃ (j : Nat) (last : Value), P ≤ j ∧ j ≤ k ∧ i = .int .i64 j ∧ Grow w2 wr v (j + 1) last ∧ Last w.heap.size w1.heap.size L P j last wr) (fun _ i _ => k - (intOf i).toNat)
                    case atStart => exact ⟨P, _, Nat.le_refl _, hPl, rfl, by rw [← HJ.out]; exact hG4, .inl ⟨rfl, _, rfl, hh⟩⟩
                    case round =>
                      clear hG4 hh HJ
                      obtain ⟨j, last, hj, hjk, rfl, hG, hLast⟩ := hrel
                      obtain ⟨xs, hown, hlast⟩ := hG.own
                      have hbs := hG.below.size
                      by_cases hjP : j < k
                      · have hlv := e0 _ (e5 _ hG.below) j (by omega)
                        clear hlast
                        go_wp2_with (at_builtin; refine wpList_append_own _ rfl (.tmp 152) (.tmp 157) 25 rfl w2.heap.size 28 i0 (.slice none 0 0) 1 24 Try.underlying25 hi hz0 hz1 hz2 rfl (by decide) _ (j + 1) xs rfl (hown.alloc _) ⟨wr.heap.size, 0, none⟩ 1 1 [.slice (some ⟨rowAt w.heap.size L j, 0, none⟩) (L j) (L j)] rfl rfl ?_ ?_ ?_ ?_ ?_ ?_)
                        · exact cell_one_new _ _ _
                        · exact one_slice _ _ _
                        · unfold maxLen; omega
                        · omega
                        · simp; omega
                        intro v' w4 hown' hgrow _
                        have R := grow_step hG hown hown' hgrow
                        clear hown' hgrow hown hG hlv hLast
                        go_wp2
                        go_roundw
                        case rel => exact ⟨j + 1, _, by omega, by omega, by go_num, R, .inr ⟨by omega, rfl⟩⟩
                        case measure => simp [intOf]; omega
                      · have hjk2 : j = k := by omega
                        subst hjk2
                        rcases hown.2 with ⟨_, h0⟩ | ⟨g0, cap0, cur, rfl, hbg, hgg, hnc, hcm, hcs, htake⟩
                        · omega
                        have hs1 : wr.cell? ⟨g0, j, none⟩ = some last := by
                          have hx := hown.cells (g := g0) rfl (j + 1 - 1) last (hlast (by omega))
                          rw [Nat.add_sub_cancel, add_zero_off] at hx
                          exact hx
                        have hbe := e5 _ hG.below
                        have hkw : wr.cell? ⟨w1.heap.size, 4, none⟩ = some (.int .i64 x) := by
                          rw [hG.below.cell (p := ⟨w1.heap.size, 4, none⟩) (World.block_lt_of_cell? _ _ hk2)]
                          exact hk2
                        have e1 := fun W hW => e0 W hW (j - 1) (by omega)
                        clear e0 e5 hown hbg hgg hnc hcm hcs htake hlast hi hz0 hz1 hz2 hk2 hG hjP hj
                        generalize prevB w.heap.size L j 0 = q at *
                        go_wp2_with fail
                        refine (newLadder_any _ _ _ _).mono ?_
                        rintro e w5 ⟨rfl, rfl⟩
                        go_wp2_with fail
                        refine (zbest_some wr.heap.size w.heap.size j j (rowAt w.heap.size L (j - 1)) (L (j - 1)) (L (j - 1)) (.pointer (some ⟨q, 0, none⟩)) _ hl0 hl hp (by omega) (by simp) (e1 _ (hbe.alloc hbe.size _)) (e2 _ (hbe.alloc hbe.size _))).mono ?_
                        rintro e w5 ⟨rfl, m1, rfl⟩
                        go_wp2_with fail
                        refine (newLadder_any _ _ _ _).mono ?_
                        rintro e w5 ⟨rfl, rfl⟩
                        go_wp2_with fail
                        have hb2' := fun o1 o2 => (below_drewN (hbe.alloc hbe.size o1) m1).alloc (by show w1.heap.size ≤ (wr.alloc o1).heap.size; simp; have := hbe.size; omega) o2
                        have HB : Hid (∀ o1 o2, Below w1.heap.size w1 (((wr.alloc o1).drewN m1).alloc o2)) := hb2'
                        have hq := eql_same q
                        have hqn := neq_same q
                        have hqx := eql_same w1.heap.size
                        rcases hLast with ⟨hjP, h, rfl, hh⟩ | ⟨hjP, rfl⟩
                        · refine (zbest_some (wr.heap.size + 1) g0 (j + 1) cap0 h 1 1 (.pointer (some ⟨w1.heap.size, 0, none⟩)) _ (by omega) (by omega) (by omega) (by omega) (by exact ladder_cell _ _ _ _ _) (by exact cell_alloc_old _ (cell_alloc_old (w := wr) _ hs1)) (by exact cell_alloc_old _ (cell_alloc_old (w := wr) _ hh))).mono ?_
                          rintro e w5 ⟨rfl, m2, rfl⟩
                          have hPj : ((P : Int) == (j : Int)) = true := by simp; omega
                          have e4 : ∀ o1 o2, ((((wr.alloc o1).drewN m1).alloc o2).drewN m2).cell? ⟨w1.heap.size, 4, none⟩ = some (.int .i64 x) := fun o1 o2 => cell_alloc_old (w := (wr.alloc o1).drewN m1) _ (cell_alloc_old (w := wr) _ hkw)
                          clear hb2' e1 e2 hs1 hh hjP hkw
                          go_wp2_with (go_at_call 11; refine (levelKey_any w1.heap.size x _ (e4 _ _)).mono ?_; rintro e w2 ⟨rfl, rfl⟩)
                          go_ret
                          exact ⟨rfl, HO.out.trans ((below_drewN (HB.out _ _) _).mono HO.out.size)⟩
                        · refine (zbest_some (wr.heap.size + 1) g0 (j + 1) cap0 (rowAt w.heap.size L (j - 1)) (L (j - 1)) (L (j - 1)) (.pointer (some ⟨q, 0, none⟩)) _ (by omega) (by omega) hp (by omega) (by exact ladder_cell _ _ _ _ _) (by exact cell_alloc_old _ (cell_alloc_old (w := wr) _ hs1)) (e2 _ (hb2' _ _))).mono ?_
                          rintro e w5 ⟨rfl, m2, rfl⟩
                          have hPj : ((P : Int) == (j : Int)) = false := by simp; omega
                          clear hb2' e1 e2 hs1 hkw
                          go_wp2
                          go_ret
                          exact ⟨rfl, HO.out.trans ((below_drewN (HB.out _ _) _).mono HO.out.size)⟩
end

/-! ### no row -/
section
variable (a0 : Option Addr) (cap : Nat) (p x : Int) (w : World)

set_option maxHeartbeats 400000 in
theorem bytes12_zero : Calls Try.prog 12 #[.slice a0 0 cap, .int .i64 p, .int .i64 x] w fun e w' => e = .returned (.bool true) ∧ w = w' := by
  go_enter Try.func12, Try.ntmps12
  go_wp2
  refine wp_loop_rounds 1 ?_
  rw [rounds_succ]
  go_wp2
  go_ret
  exact ⟨rfl, rfl⟩

set_option maxRecDepth 100000 in
set_option maxHeartbeats 800000 in
theorem lawB_zero : Calls Try.prog 4 #[.slice a0 0 cap, .int .i64 p, .int .i64 x] w fun e w' => e = .returned (.bool true) ∧ Below w.heap.size w w' := by
  go_enter Try.func4, Try.ntmps4
  go_wp2_with (go_at_call 12; refine (bytes12_zero _ _ _ _ _).mono ?_; rintro e w' ⟨rfl, rfl⟩)
  refine wp_loop_rounds 1 ?_
  rw [rounds_succ]
  by_cases hp0 : p < 0
  · go_wp2
    go_ret
    exact ⟨rfl, Below.refl _ _⟩
  by_cases hp1 : 0 < p
  · have hd : decide (p < 0) = false := by simpa using hp0
    go_wp2
    go_ret
    exact ⟨rfl, Below.refl _ _⟩
  obtain rfl : p = 0 := by omega
  clear hp0 hp1
  go_wp2_with (go_at_call 7; refine (shape_zero _ _ _).mono ?_; rintro e w' ⟨rfl, rfl⟩)
  refine wp_loop_rounds 1 ?_
  rw [rounds_succ]
  go_wp2_with fail
  refine (levels_zero _ _ _).mono ?_
  rintro e w1 ⟨a, c, rfl, hb⟩
  go_wp2_with fail
  refine wp_loop_rounds 1 ?_
  rw [rounds_succ]
  go_wp2_with fail
  refine (newLevel_own _ _).mono ?_
  rintro e w2 ⟨rfl, hb2, hk2, hs2⟩
  have HS2 : Hid (w2.heap.size = w1.heap.size + 1) := hs2
  clear hs2
  obtain ⟨i0, hi, hz0, hz1, hz2⟩ := info_parts info28
  go_wp2_with (at_make; refine wpList_make_own _ rfl _ _ 25 rfl w2.heap.size 28 i0 (.slice none 0 0) 1 Try.underlying25 hi hz0 hz1 .i64 .i64 _ 1 rfl rfl ?_ ?_ ?_ (Nat.le_refl _) ?_)
  · rfl
  · rw [hz2]; omega
  · unfold maxLen; omega
  intro w3 hown3 hgrow3
  have hG0 : Grow w2 w3 (.slice (some ⟨w2.heap.size, 0, none⟩) 0 1) 0 .nilIface := ⟨(Below.refl _ _).grown hgrow3 (Nat.le_refl _) (fun _ h => by cases h), [], hown3, fun h => absurd h (Nat.not_lt_zero _)⟩
  clear hgrow3
  have hbs := hG0.below.size
  go_wp2_with fail
  refine wp_loop_rounds 1 ?_
  rw [rounds_succ]
  go_wp2_with (at_builtin; refine wpList_append_own _ rfl (.tmp 140) (.tmp 143) 25 rfl w2.heap.size 28 i0 (.slice none 0 0) 1 24 Try.underlying25 hi hz0 hz1 hz2 rfl (by decide) _ 0 [] rfl ((hown3.alloc _).alloc _) ⟨w3.heap.size + 1, 0, none⟩ 1 1 [.slice (some ⟨w3.heap.size, 0, none⟩) 1 1] rfl rfl ?_ ?_ ?_ ?_ ?_ ?_)
  · exact cell_two_one _ _ _ _ _
  · exact one_slice _ _ _
  · unfold maxLen; omega
  · omega
  · simp; omega
  intro v' w4 hown' hgrow _
  obtain ⟨hG4, hh⟩ := grow_step2 hG0 hown3 hown' hgrow
  clear hgrow hown' hown3 hG0
  go_wp2_with fail
  refine wp_loop_rounds 1 ?_
  rw [rounds_succ]
  obtain ⟨xs, hown, hlast⟩ := hG4.own
  rcases hown.2 with ⟨_, h0⟩ | ⟨g0, cap0, cur, rfl, hbg, hgg, hnc, hcm, hcs, htake⟩
  · omega
  have hs1 : w4.cell? ⟨g0, 0, none⟩ = some (.slice (some ⟨w3.heap.size, 0, none⟩) 1 1) := by
    have hx := hown.cells (g := g0) rfl (0 + 1 - 1) _ (hlast (by omega))
    rw [Nat.add_sub_cancel, add_zero_off] at hx
    exact hx
  have hkw : w4.cell? ⟨w1.heap.size, 4, none⟩ = some (.int .i64 x) := by
    rw [hG4.below.cell (p := ⟨w1.heap.size, 4, none⟩) (World.block_lt_of_cell? _ _ hk2)]
    exact hk2
  have hbe : Below w.heap.size w w4 := hb.trans ((hb2.trans (hG4.below.mono hb2.size)).mono hb.size)
  have hes := hbe.size
  clear hown hbg hgg hnc hcm hcs htake hlast hi hz0 hz1 hz2 hk2 hG4 hb hb2 hbs HS2
  go_wp2_with fail
  refine (newLadder_any _ _ _ _).mono ?_
  rintro e w5 ⟨rfl, rfl⟩
  go_wp2_with fail
  refine (zbest_none w4.heap.size a c _ (by simp)).mono ?_
  rintro e w5 ⟨rfl, m1, rfl⟩
  go_wp2_with fail
  refine (newLadder_any _ _ _ _).mono ?_
  rintro e w5 ⟨rfl, rfl⟩
  go_wp2_with fail
  refine (zbest_some (w4.heap.size + 1) g0 1 cap0 w3.heap.size 1 1 (.pointer (some ⟨w1.heap.size, 0, none⟩)) _ (by omega) (by omega) (by omega) (by omega) (by exact ladder_cell _ _ _ _ _) (by exact cell_alloc_old _ (cell_alloc_old (w := w4) _ hs1)) (by exact cell_alloc_old _ (cell_alloc_old (w := w4) _ hh))).mono ?_
  rintro e w5 ⟨rfl, m2, rfl⟩
  have hqx := eql_same w1.heap.size
  have e4 : ∀ o1 o2, ((((w4.alloc o1).drewN m1).alloc o2).drewN m2).cell? ⟨w1.heap.size, 4, none⟩ = some (.int .i64 x) := fun o1 o2 => cell_alloc_old (w := (w4.alloc o1).drewN m1) _ (cell_alloc_old (w := w4) _ hkw)
  clear hs1 hh hkw
  go_wp2_with (go_at_call 11; refine (levelKey_any w1.heap.size x _ (e4 _ _)).mono ?_; rintro e w2 ⟨rfl, rfl⟩)
  go_ret
  exact ⟨rfl, below_drewN ((below_drewN (hbe.alloc hes _) m1).alloc (by show w.heap.size ≤ (w4.alloc _).heap.size; simp; omega) _) m2⟩
end
end Go.Proofs.Qxb6613111a
