/-
  FnLadderBestIsTheHighestLevelHoweverCut (3): the walk, some row there.
-/
import Derived.Test.Qxb6613111aLevels
namespace Go.Proofs.Qxb6613111a
open Go.RowKit Go.Deep

/-- The level ahead of level c of row k: its block; its key is 'prevK'. -/
def prevB (B : Nat) (L : Nat → Nat) (k c : Nat) : Nat := if c = 0 then rowAt B L (k - 1) + 1 + (L (k - 1) - 1) else rowAt B L k + 1 + (c - 1)

theorem prevB_succ (B : Nat) (L : Nat → Nat) (k c : Nat) : prevB B L k (c + 1) = rowAt B L k + 1 + c := by simp [prevB]
theorem prevB_next (B : Nat) (L : Nat → Nat) (k : Nat) (h : 0 < L k) : prevB B L k (L k) = prevB B L (k + 1) 0 := by
  unfold prevB
  rw [if_neg (by omega), if_pos rfl]
  rfl

/-- WHAT 'single' IS WHEN n LEVELS ARE IN: the last of them lies in a run of its own. -/
structure Sing (w1 wr : World) (s : Value) (n q : Nat) : Prop where
  below : Below w1.heap.size w1 wr
  own : ∃ xs, wr.ownsRow w1.heap.size 28 1 s n xs ∧ (0 < n → ∃ h, xs[n - 1]? = some (.slice (some ⟨h, 0, none⟩) 1 1) ∧ wr.cell? ⟨h, 0, none⟩ = some (.pointer (some ⟨q, 0, none⟩)))

theorem sing_step {w1 wr w2 : World} {s v' : Value} {n q q' : Nat} {xs : List Value} (hs : Sing w1 wr s n q) (hx : wr.ownsRow w1.heap.size 28 1 s n xs)
    (h2 : w2.ownsRow w1.heap.size 28 1 v' (n + 1) (xs ++ [.slice (some ⟨wr.heap.size, 0, none⟩) 1 1]))
    (hg : ((wr.alloc (.cells #[.pointer (some ⟨q', 0, none⟩)] 27)).alloc (.cells #[.slice (some ⟨wr.heap.size, 0, none⟩) 1 1] 28)).grownBy w2 s.ownBlock) : Sing w1 w2 v' (n + 1) q' := by
  have hsz := hs.below.size
  have hlen : xs.length = n := by simpa using hx.1
  refine ⟨((hs.below.alloc hsz _).alloc (by simp; omega) _).grown hg (by simp; omega) (fun k hk => (hx.lt k hk).1), _, h2, fun _ => ⟨wr.heap.size, ?_, ?_⟩⟩
  · rw [Nat.add_sub_cancel, List.getElem?_append_right (by omega), hlen]
    simp
  · refine hg.cell ?_ ?_
    · refine cell_alloc_old _ ?_
      simp
    · intro e
      have := (hx.lt wr.heap.size e.symm).2
      omega

theorem cell_two_one (wr : World) (x y : Value) (t t' : TypeId) : ∀ j u, [y][j]? = some u → ((wr.alloc (.cells #[x] t)).alloc (.cells #[y] t')).cell? ((⟨wr.heap.size + 1, 0, none⟩ : Addr).add j) = some u := by
  intro j u hj
  match j, hj with
  | 0, hj => simp at hj; subst hj; simp [Addr.add]
  | j + 1, hj => simp at hj

theorem ladder_cell (wr : World) (o : Obj) (m : Nat) (x y : Value) : (((wr.alloc o).drewN m).alloc (.cells #[x, y] 47)).cell? ⟨wr.heap.size + 1, 0, none⟩ = some x := by
  have h := cell_two_new ((wr.alloc o).drewN m) x y 47 0 x rfl
  have e : ((wr.alloc o).drewN m).heap.size = wr.heap.size + 1 := by show (wr.alloc o).heap.size = _; simp
  rw [e] at h
  simpa [Addr.add] using h

theorem one_slice (a : Option Addr) (n c : Nat) : ∀ u ∈ [Value.slice a n c], u.oneCell' = true := by
  intro u hu
  simp at hu
  subst hu
  rfl

/-- WHERE THE SEARCH STANDS AHEAD OF LEVEL c OF ROW k: none yet; or the level just ahead is the top. -/
def Ahead (B : Nat) (L : Nat → Nat) (Z : Nat → Nat → Int) (k c n : Nat) (u : Option Addr) (z : Int) : Prop :=
  (k = 0 ∧ c = 0 ∧ n = 0 ∧ u = none) ∨ (0 < n ∧ u = some ⟨prevB B L k c, 0, none⟩ ∧ z = prevK L Z k c)

section
variable (b o len cap : Nat) (A : Nat → Option Addr) (L C Ab Ao : Nat → Nat) (Z : Nat → Nat → Int) (w : World)

set_option maxRecDepth 100000 in
set_option maxHeartbeats 1600000 in
theorem lawA_pos (hl0 : 0 < len) (hl : len ≤ 9223372036854775807) (g : Grid w b o len A L C Ab Ao Z) :
    Calls Try.prog 3 #[.slice (some ⟨b, o, none⟩) len cap] w fun e w' => e = .returned (.bool true) ∧ Below w.heap.size w w' := by
  go_enter Try.func3, Try.ntmps3
  go_wp2_with fail
  refine (bytes6_any b o len cap A L C Ab Ao Z _ hl g).mono ?_
  rintro e w' ⟨r, rfl, hr, rfl⟩
  cases r with
  | false =>
    clear hr
    go_wp2
    go_ret
    exact ⟨rfl, Below.refl _ _⟩
  | true =>
    obtain ⟨hle, hL⟩ := hr rfl
    clear hr
    go_wp2
    go_loop [3, 24] (fun t i => ∃ (k : Nat) (z : Int), k ≤ len ∧ i = .int .i64 k ∧ t = .int .i64 z) (fun _ i => len - (intOf i).toNat)
    case atStart => exact ⟨0, _, Nat.zero_le _, rfl, rfl⟩
    case round =>
      obtain ⟨k, z, hk, rfl, rfl⟩ := hrel
      by_cases hlt : k < len
      · have hc := g.row k hlt
        go_wp2
        · go_ret
          exact ⟨rfl, Below.refl _ _⟩
        · go_round
          case rel => exact ⟨k + 1, _, by omega, by go_num, rfl⟩
          case measure => simp [intOf]; omega
      · go_wp2_with fail
        refine (shape_any b o len cap A L C Ab Ao Z _ hle hL g).mono ?_
        rintro e w' ⟨r, rfl, hr, rfl⟩
        cases r with
        | false =>
          clear hr
          go_wp2
          go_ret
          exact ⟨rfl, Below.refl _ _⟩
        | true =>
          have hR := hr rfl
          clear hr
          go_wp2_with fail
          refine (levels_any b o len cap A L C Ab Ao Z _ hl0 hle hL (fun i hi => (hR i hi).1) g).mono ?_
          rintro e w1 ⟨rfl, hO⟩
          go_wp2_with fail
          obtain ⟨i0, hi, hz0, hz1, hz2⟩ := info_parts info28
          go_loopw [7, 8, 9, 42] (fun s t tk i wr => ∃ (k n : Nat) (u : Option Addr) (z : Int), k ≤ len ∧ i = .int .i64 k ∧ n ≤ k * 1048576 ∧ t = .pointer u ∧ tk = .int .i64 z ∧ Ahead w.heap.size L Z k 0 n u z ∧ Sing w1 wr s n (prevB w.heap.size L k 0)) (fun _ _ _ i _ => len - (intOf i).toNat)
          case atStart => exact ⟨0, 0, none, 0, Nat.zero_le _, rfl, (by omega), rfl, rfl, .inl ⟨rfl, rfl, rfl, rfl⟩, ⟨Below.refl _ _, [], World.ownsRow_nil _ _ _ _, fun h => absurd h (Nat.not_lt_zero _)⟩⟩
          case round =>
            obtain ⟨k, n, u, z, hk, rfl, hn, rfl, rfl, hA, hS⟩ := hrel
            have hbw : Below w.heap.size w wr := hO.below.trans (hS.below.mono hO.below.size)
            have g' := g.below hbw
            by_cases hlt : k < len
            · have hc := g'.rowP hlt (hR k hlt).1
              have hLk := hL k hlt
              clear g' hbw
              go_wp2_with fail
              go_loopw [7, 8, 9, 49] (fun s t tk i wr => ∃ (c n : Nat) (u : Option Addr) (z : Int), c ≤ L k ∧ i = .int .i64 c ∧ n ≤ k * 1048576 + c ∧ t = .pointer u ∧ tk = .int .i64 z ∧ Ahead w.heap.size L Z k c n u z ∧ Sing w1 wr s n (prevB w.heap.size L k c)) (fun _ _ _ i _ => L k - (intOf i).toNat)
              case atStart => exact ⟨0, n, u, z, Nat.zero_le _, rfl, Nat.le_trans hn (Nat.le_add_right _ _), rfl, rfl, hA, hS⟩
              case round =>
                clear hn hA hS hc
                obtain ⟨c, n, u, z, hcL, rfl, hn, rfl, rfl, hA, hS⟩ := hrel
                have hbw : Below w.heap.size w wr := hO.below.trans (hS.below.mono hO.below.size)
                have g' := g.below hbw
                by_cases hlc : c < L k
                · have hcell := (g'.key k hlt c hlc).2
                  have hlv : wr.cell? ⟨w.heap.size, k, none⟩ = some (.slice (some ⟨rowAt w.heap.size L k, 0, none⟩) (L k) (L k)) := by
                    rw [hS.below.cell (p := ⟨w.heap.size, k, none⟩) hO.top.lt]
                    simpa [topF, hlt] using hO.top.cell hlt
                  have hlp : wr.cell? ⟨rowAt w.heap.size L k, c, none⟩ = some (.pointer (some ⟨rowAt w.heap.size L k + 1 + c, 0, none⟩)) := by
                    rw [hS.below.cell (p := ⟨rowAt w.heap.size L k, c, none⟩) (hO.row k hlt).lt]
                    exact (hO.row k hlt).cell hlc
                  have hrise := (hR k hlt).2 c hlc
                  obtain ⟨xs, hown, _⟩ := hS.own
                  have hbs := hS.below.size
                  clear g' hbw
                  rcases hA with ⟨hk0, hc0, hn0, rfl⟩ | ⟨hn0, rfl, hz⟩
                  · have HK : Hid (k = 0 ∧ c = 0 ∧ n = 0) := ⟨hk0, hc0, hn0⟩
                    clear hk0 hc0 hn0 hrise
                    go_wp2_with (at_builtin; refine wpList_append_own _ rfl (.tmp 61) (.tmp 64) 25 rfl w1.heap.size 28 i0 (.slice none 0 0) 1 24 Try.underlying25 hi hz0 hz1 hz2 rfl (by decide) _ n xs rfl ((hown.alloc _).alloc _) ⟨wr.heap.size + 1, 0, none⟩ 1 1 [.slice (some ⟨wr.heap.size, 0, none⟩) 1 1] rfl rfl ?_ ?_ ?_ ?_ ?_ ?_)
                    · exact cell_two_one _ _ _ _ _
                    · exact one_slice _ _ _
                    · unfold maxLen; omega
                    · omega
                    · simp; omega
                    intro v' w2 hown' hgrow _
                    have R := sing_step hS hown hown' hgrow
                    clear hown' hgrow hown hS hlv hlp hcell
                    go_wp2
                    go_roundw
                    case rel => exact ⟨c + 1, n + 1, some ⟨rowAt w.heap.size L k + 1 + c, 0, none⟩, Z k c, by omega, by go_num, by omega, rfl, rfl, .inr ⟨by omega, by rw [prevB_succ], by rw [prevK_succ]⟩, by rw [prevB_succ]; exact R⟩
                    case measure => simp [intOf]; omega
                  · have hzl : z < Z k c := by
                      rcases hrise with ⟨h1, h2⟩ | h1
                      · subst h1 h2; omega
                      · omega
                    clear hz hrise
                    go_wp2_with (at_builtin; refine wpList_append_own _ rfl (.tmp 61) (.tmp 64) 25 rfl w1.heap.size 28 i0 (.slice none 0 0) 1 24 Try.underlying25 hi hz0 hz1 hz2 rfl (by decide) _ n xs rfl ((hown.alloc _).alloc _) ⟨wr.heap.size + 1, 0, none⟩ 1 1 [.slice (some ⟨wr.heap.size, 0, none⟩) 1 1] rfl rfl ?_ ?_ ?_ ?_ ?_ ?_)
                    · exact cell_two_one _ _ _ _ _
                    · exact one_slice _ _ _
                    · unfold maxLen; omega
                    · omega
                    · simp; omega
                    intro v' w2 hown' hgrow _
                    have R := sing_step hS hown hown' hgrow
                    clear hown' hgrow hown hS hlv hlp hcell
                    go_wp2
                    go_roundw
                    case rel => exact ⟨c + 1, n + 1, some ⟨rowAt w.heap.size L k + 1 + c, 0, none⟩, Z k c, by omega, by go_num, by omega, rfl, rfl, .inr ⟨by omega, by rw [prevB_succ], by rw [prevK_succ]⟩, by rw [prevB_succ]; exact R⟩
                    case measure => simp [intOf]; omega
                · have HC : Hid (c = L k) := by show c = L k; omega
                  have hp := (hR k hlt).1
                  clear g' hbw
                  go_wp2
                  go_roundw
                  case rel =>
                    refine ⟨k + 1, n, u, z, by omega, by go_num, by omega, rfl, rfl, ?_, ?_⟩
                    · have e := HC.out
                      rcases hA with ⟨_, h2, _⟩ | ⟨h1, h2, h3⟩
                      · omega
                      · exact .inr ⟨h1, by rw [h2, e, prevB_next _ L k hp], by rw [h3, e, prevK_next L Z k hp]⟩
                    · rw [← prevB_next _ L k hp, ← HC.out]; exact hS
                  case measure => simp [intOf]; omega
            · have hkl : k = len := by omega
              subst hkl
              have hp := (hR (k - 1) (by omega)).1
              have hLl := hL (k - 1) (by omega)
              obtain ⟨hn0, rfl, hz⟩ : 0 < n ∧ u = some ⟨prevB w.heap.size L k 0, 0, none⟩ ∧ z = prevK L Z k 0 := by
                rcases hA with ⟨h1, _⟩ | h1
                · omega
                · exact h1
              obtain ⟨xs, hown, hlast⟩ := hS.own
              obtain ⟨h, hx, hh⟩ := hlast hn0
              -- the levels, in whatever world comes behind
              have e1 : ∀ W, Below w1.heap.size w1 W → W.cell? ⟨w.heap.size, k - 1, none⟩ = some (.slice (some ⟨rowAt w.heap.size L (k - 1), 0, none⟩) (L (k - 1)) (L (k - 1))) := fun W hW => by
                rw [hW.cell (p := ⟨w.heap.size, k - 1, none⟩) hO.top.lt, hO.top.cell (show k - 1 < k by omega)]
                simp only [topF]
                rw [if_pos (by omega)]
              have e2 : ∀ W, Below w1.heap.size w1 W → W.cell? ⟨rowAt w.heap.size L (k - 1), L (k - 1) - 1, none⟩ = some (.pointer (some ⟨prevB w.heap.size L k 0, 0, none⟩)) := fun W hW => by
                rw [hW.cell (p := ⟨rowAt w.heap.size L (k - 1), L (k - 1) - 1, none⟩) (hO.row (k - 1) (by omega)).lt, (hO.row (k - 1) (by omega)).cell (show L (k - 1) - 1 < L (k - 1) by omega)]
                simp [lvPtr, prevB]
              have e3 : ∀ W, Below w1.heap.size w1 W → W.cell? ⟨prevB w.heap.size L k 0, 4, none⟩ = some (.int .i64 (prevK L Z k 0)) := fun W hW => by
                have hk := hO.key (k - 1) (by omega) (L (k - 1) - 1) (by omega)
                have hk' : w1.cell? ⟨prevB w.heap.size L k 0, 4, none⟩ = some (.int .i64 (prevK L Z k 0)) := by simpa [prevB, prevK] using hk
                rw [hW.cell (p := ⟨prevB w.heap.size L k 0, 4, none⟩) (World.block_lt_of_cell? _ _ hk'), hk']
              have hadd : ∀ (g j : Nat), (⟨g, 0, none⟩ : Addr).add j = ⟨g, j, none⟩ := fun g j => by unfold Addr.add; split <;> simp_all
              rcases hown.2 with ⟨_, h0⟩ | ⟨g0, cap0, cur, rfl, hbg, hgg, hnc, hcm, hcs, htake⟩
              · omega
              have hs1 : wr.cell? ⟨g0, n - 1, none⟩ = some (.slice (some ⟨h, 0, none⟩) 1 1) := by rw [← hadd]; exact hown.cells (g := g0) rfl (n - 1) _ hx
              have hn63 : n ≤ 9223372036854775807 := by omega
              have hbe := hS.below
              have HO : Hid (Below w.heap.size w w1) := hO.below
              clear hown hbg hgg hnc hcm hcs htake hx hS hadd g' hbw hO hR hL g hi hz0 hz1 hz2 hlast
              generalize prevB w.heap.size L k 0 = q at *
              generalize prevK L Z k 0 = K at *
              subst hz
              go_wp2_with fail
              refine (newLadder_any _ _ _ _).mono ?_
              rintro e w2 ⟨rfl, rfl⟩
              go_wp2_with fail
              refine (zbest_some wr.heap.size w.heap.size k k (rowAt w.heap.size L (k - 1)) (L (k - 1)) (L (k - 1)) (.pointer (some ⟨q, 0, none⟩)) _ hl0 hl hp (by omega) (by simp) (e1 _ (hbe.alloc hbe.size _)) (e2 _ (hbe.alloc hbe.size _))).mono ?_
              rintro e w2 ⟨rfl, m1, rfl⟩
              go_wp2_with fail
              refine (newLadder_any _ _ _ _).mono ?_
              rintro e w2 ⟨rfl, rfl⟩
              go_wp2_with fail
              refine (zbest_some (wr.heap.size + 1) g0 n cap0 h 1 1 (.pointer (some ⟨q, 0, none⟩)) _ hn0 hn63 (by omega) (by omega) (by exact ladder_cell _ _ _ _ _) (by exact cell_alloc_old _ (cell_alloc_old (w := wr) _ hs1)) (by exact cell_alloc_old _ (cell_alloc_old (w := wr) _ hh))).mono ?_
              rintro e w2 ⟨rfl, m2, rfl⟩
              have hb2 := fun o1 o2 => below_drewN ((below_drewN (hbe.alloc hbe.size o1) m1).alloc (by show w1.heap.size ≤ (wr.alloc o1).heap.size; simp; have := hbe.size; omega) o2) m2
              have HB : Hid (∀ o1 o2, Below w1.heap.size w1 ((((wr.alloc o1).drewN m1).alloc o2).drewN m2)) := hb2
              have e4 := fun o1 o2 => e3 _ (hb2 o1 o2)
              clear hb2 e1 e2 e3 hs1 hh
              have hq := eql_same q
              go_wp2_with (go_at_call 11; refine (levelKey_any q z _ (e4 _ _)).mono ?_; rintro e w2 ⟨rfl, rfl⟩)
              go_ret
              exact ⟨rfl, HO.out.trans ((HB.out _ _).mono HO.out.size)⟩
end

/-! ### no row -/
section
variable (a0 : Option Addr) (cap : Nat) (w : World)

set_option maxHeartbeats 400000 in
theorem bytes6_zero : Calls Try.prog 6 #[.slice a0 0 cap] w fun e w' => e = .returned (.bool true) ∧ w = w' := by
  go_enter Try.func6, Try.ntmps6
  go_wp2
  refine wp_loop_rounds 1 ?_
  rw [rounds_succ]
  go_wp2
  go_ret
  exact ⟨rfl, rfl⟩

set_option maxHeartbeats 400000 in
theorem shape_zero : Calls Try.prog 7 #[.slice a0 0 cap] w fun e w' => e = .returned (.bool true) ∧ w = w' := by
  go_enter Try.func7, Try.ntmps7
  go_wp2
  refine wp_loop_rounds 1 ?_
  rw [rounds_succ]
  go_wp2
  go_ret
  exact ⟨rfl, rfl⟩

set_option maxHeartbeats 400000 in
theorem levels_zero : Calls Try.prog 8 #[.slice a0 0 cap] w fun e w' => ∃ a c, e = .returned (.slice a 0 c) ∧ Below w.heap.size w w' := by
  have hnil : ∀ w, (binOp .eql 22 (.slice a0 0 cap) (.slice none 0 0)).run Try.prog w = .ok (.bool a0.isNone) w := fun w => Lib.run_eql_slice_nil w 22 24 a0 0 cap 0 0 Try.underlying22
  have hmk := run_make_row' (P := Try.prog) 25 28 (.slice none 0 0) 24 Try.underlying25 info28 rfl .i64 .i64 0 (by omega) (by omega)
  simp only [Int.natCast_zero] at hmk
  cases a0 with
  | none =>
    simp only [Option.isNone_none] at hnil
    go_enter Try.func8, Try.ntmps8
    go_wp2
    go_ret
    exact ⟨_, _, rfl, Below.refl _ _⟩
  | some a =>
    simp only [Option.isNone_some] at hnil
    go_enter Try.func8, Try.ntmps8
    go_wp2
    refine wp_loop_rounds 1 ?_
    rw [rounds_succ]
    go_wp2
    go_ret
    exact ⟨_, _, rfl, (Below.refl _ _).alloc (Nat.le_refl _) _⟩

set_option maxHeartbeats 800000 in
theorem lawA_zero : Calls Try.prog 3 #[.slice a0 0 cap] w fun e w' => e = .returned (.bool true) ∧ Below w.heap.size w w' := by
  go_enter Try.func3, Try.ntmps3
  go_wp2_with (go_at_call 6; refine (bytes6_zero _ _ _).mono ?_; rintro e w' ⟨rfl, rfl⟩)
  refine wp_loop_rounds 1 ?_
  rw [rounds_succ]
  go_wp2_with (go_at_call 7; refine (shape_zero _ _ _).mono ?_; rintro e w' ⟨rfl, rfl⟩)
  refine (levels_zero _ _ _).mono ?_
  rintro e w1 ⟨a, c, rfl, hb⟩
  go_wp2_with fail
  refine wp_loop_rounds 1 ?_
  rw [rounds_succ]
  go_wp2_with fail
  refine (newLadder_any _ _ _ _).mono ?_
  rintro e w2 ⟨rfl, rfl⟩
  go_wp2_with fail
  refine (zbest_none w1.heap.size a c _ (by simp)).mono ?_
  rintro e w2 ⟨rfl, m1, rfl⟩
  go_wp2_with fail
  refine (newLadder_any _ _ _ _).mono ?_
  rintro e w2 ⟨rfl, rfl⟩
  go_wp2_with fail
  refine (zbest_none (w1.heap.size + 1) none 0 _ (by exact ladder_cell _ _ _ _ _)).mono ?_
  rintro e w2 ⟨rfl, m2, rfl⟩
  go_wp2
  go_ret
  have hs := hb.size
  exact ⟨rfl, below_drewN ((below_drewN (hb.alloc hs _) m1).alloc (by show w.heap.size ≤ (w1.alloc _).heap.size; simp; omega) _) m2⟩
end
end Go.Proofs.Qxb6613111a
