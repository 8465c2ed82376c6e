/-
  THE VISITOR: ZZB1eachUntilSeen$1 (27), eachUntil (26), ZZB1eachUntilSeen (20).
-/
import Derived.Test.Qxb6613445aLeaf
namespace Go.Proofs.Qxb6613445a
open Go.RowKit Go.Deep

/-- A SLICE OF n RULES' POINTERS: rule i is block q i. -/
structure Ptrs (w : World) (va : Option Addr) (n g o : Nat) (q : Nat → Nat) : Prop where
  ptr : 0 < n → va = some ⟨g, o, none⟩
  cell : ∀ i, i < n → w.cell? ⟨g, o + i, none⟩ = some (.pointer (some ⟨q i, 0, none⟩))

theorem Ptrs.below {w w' : World} {va : Option Addr} {n g o : Nat} {q : Nat → Nat} (h : Ptrs w va n g o q) (hb : Below w.heap.size w w') : Ptrs w' va n g o q :=
  ⟨h.ptr, fun i hi => (hb.cell (p := ⟨g, o + i, none⟩) (World.block_lt_of_cell? _ _ (h.cell i hi))).trans (h.cell i hi)⟩

/-- WHAT THE VISITOR HAS SEEN: n rules, in a variable of its own, block s. -/
structure Seen (w wr : World) (s : Nat) (v : Value) (n : Nat) (q : Nat → Nat) : Prop where
  below : Below s w wr
  var : wr.heap[s]? = some (.cells #[v] 27 (0, 0))
  own : wr.ownsRow (s + 1) 50 1 v n ((List.range n).map fun i => .pointer (some ⟨q i, 0, none⟩))

theorem one_pointer (a : Option Addr) : ∀ u ∈ [Value.pointer a], u.oneCell' = true := by
  intro u hu
  simp at hu
  subst hu
  rfl

theorem seen_step {w wr w1 : World} {s n : Nat} {v v' : Value} {q : Nat → Nat} (hs : s < wr.heap.size) (h : Seen w wr s v n q)
    (h2 : w1.ownsRow (s + 1) 50 1 v' (n + 1) (((List.range n).map fun i => .pointer (some ⟨q i, 0, none⟩)) ++ [.pointer (some ⟨q n, 0, none⟩)]))
    (hg : (wr.alloc (.cells #[.pointer (some ⟨q n, 0, none⟩)] 50)).grownBy w1 v.ownBlock) :
    w1.heap[s]? = some (.cells #[v] 27 (0, 0)) ∧ Below s wr w1 ∧ Seen w (w1.setCell ⟨s, 0, none⟩ v') s v' (n + 1) q := by
  have hne : some s ≠ v.ownBlock := fun e => by have := (h.own.lt s e.symm).1; omega
  have hv1 : w1.heap[s]? = some (.cells #[v] 27 (0, 0)) := by
    rw [hg.block s (by simp; omega) hne, Below.heap_alloc _ _ _ hs]
    exact h.var
  have hb1 : Below s wr w1 := ((Below.refl _ _).alloc (by omega) _).grown hg (by simp; omega) (fun k hk => by have := (h.own.lt k hk).1; omega)
  refine ⟨hv1, hb1, (h.below.trans hb1).setCell (Nat.le_refl _) _, one_setCell hv1, ?_⟩
  rw [List.range_succ, List.map_append]
  exact ownsRow_setCell_below h2 (Nat.lt_succ_self s) _

set_option maxHeartbeats 800000 in
theorem visit_any (w wr : World) (s : Nat) (v : Value) (n : Nat) (q : Nat → Nat) (d : Bool) (hs : s < wr.heap.size) (hn : n ≤ 1048576) (h : Seen w wr s v n q) (hq : q n < s) (hd : wr.cell? ⟨q n, 2, none⟩ = some (.bool d)) :
    Calls Try.prog 27 #[.pointer (some ⟨q n, 0, none⟩), .pointer (some ⟨s, 0, none⟩)] wr fun e w' => e = .returned (.bool (!d)) ∧ ∃ v', Seen w w' s v' (n + 1) q := by
  have hc : wr.cell? ⟨s, 0, none⟩ = some v := cell_of_one h.var
  obtain ⟨i0, hi, hz0, hz1, hz2⟩ := info_parts info50
  have hown := h.own
  go_enter Try.func27, Try.ntmps27
  go_wp2_with (at_builtin; refine wpList_append_own _ rfl (.tmp 4) (.tmp 6) 27 rfl (s + 1) 50 i0 (.pointer none) 1 8 Try.underlying27 hi hz0 hz1 hz2 rfl (by decide) _ n _ rfl (hown.alloc _) ⟨wr.heap.size, 0, none⟩ 1 1 [.pointer (some ⟨q n, 0, none⟩)] rfl rfl ?_ ?_ ?_ ?_ ?_ ?_)
  · exact cell_one_new _ _ _
  · exact one_pointer _
  · unfold maxLen; omega
  · omega
  · simp; omega
  intro v' w1 hown' hgrow _
  obtain ⟨hv1, hb1, R⟩ := seen_step hs h hown' hgrow
  have c1 := cell_of_one hv1
  have c2 := free_of_one hv1
  have c3 : ∀ u, (w1.setCell ⟨s, 0, none⟩ u).cell? ⟨q n, 2, none⟩ = some (.bool d) := fun u => cell_set_old _ ((hb1.cell (p := ⟨q n, 2, none⟩) hq).trans hd) (by show q n ≠ s; omega)
  rcases hown'.2 with ⟨_, h0⟩ | ⟨g, cap, cur, rfl, hbg, hgg, hnc, hcm, hcs, htake⟩
  · omega
  have HR : Hid _ := R
  clear hown' hgrow hown h hbg hgg hnc hcm hcs htake hi hz0 hz1 hz2 hd hc hv1 hb1 R
  go_wp2
  go_ret
  exact ⟨rfl, _, HR.out⟩

def EachPost (D : Nat → Bool) (n : Nat) (w : World) (s : Nat) (q : Nat → Nat) (e : Ending) (w' : World) : Prop := e = .returned (.tuple #[]) ∧ ∃ v c, Visits D n c ∧ Seen w w' s v c q

set_option maxHeartbeats 800000 in
theorem each_any (w w0 : World) (ra : Option Addr) (n rc g o : Nat) (q : Nat → Nat) (D : Nat → Bool) (hn : n ≤ 1048576) (hp : Ptrs w ra n g o q) (hd : ∀ i, i < n → w.cell? ⟨q i, 2, none⟩ = some (.bool (D i)))
    (h0 : Seen w w0 w.heap.size (.slice none 0 0) 0 q) :
    Calls Try.prog 26 #[.slice ra n rc, .func (Fn.func 27) #[] #[.pointer (some ⟨w.heap.size, 0, none⟩)]] w0 (EachPost D n w w.heap.size q) := by
  go_enter Try.func26, Try.ntmps26
  go_wp2
  go_loopw [8] (fun i wr => ∃ (k : Nat) (v : Value), k ≤ n ∧ i = .int .i64 k ∧ Seen w wr w.heap.size v k q ∧ Hid (∀ j, j < k → D j = false)) (fun i _ => n - (intOf i).toNat)
  case atStart => exact ⟨0, _, Nat.zero_le _, rfl, h0, fun j hj => absurd hj (Nat.not_lt_zero _)⟩
  case round =>
    obtain ⟨k, v, hk, rfl, hS, hj⟩ := hrel
    clear h0
    by_cases hlt : k < n
    · obtain rfl := hp.ptr (by omega)
      have hqlt := World.block_lt_of_cell? _ _ (hd k hlt)
      have hdk : wr.cell? ⟨q k, 2, none⟩ = some (.bool (D k)) := (hS.below.cell (p := ⟨q k, 2, none⟩) hqlt).trans (hd k hlt)
      have hc : wr.cell? ⟨g, o + k, none⟩ = some (.pointer (some ⟨q k, 0, none⟩)) := (hS.below.cell (p := ⟨g, o + k, none⟩) (World.block_lt_of_cell? _ _ (hp.cell k hlt))).trans (hp.cell k hlt)
      have hsl := lt_of_block hS.var
      cases hD : D k with
      | true =>
        have HD : Hid (D k = true) := hD
        rw [hD] at hdk
        clear hD
        go_wp2_with (go_at_call 27; refine (visit_any w wr w.heap.size v k q true hsl (by omega) hS hqlt hdk).mono ?_; rintro e w' ⟨rfl, v', hS'⟩)
        refine bodyPost_ret (v := .tuple #[]) (by simp [results, Try.results26, go_sem]) rfl ?_
        exact ⟨rfl, v', k + 1, ⟨by omega, fun i hi => hj.out i (by omega), fun _ => ⟨by omega, HD.out⟩⟩, hS'⟩
      | false =>
        have HD : Hid (D k = false) := hD
        rw [hD] at hdk
        clear hD
        go_wp2_with (go_at_call 27; refine (visit_any w wr w.heap.size v k q false hsl (by omega) hS hqlt hdk).mono ?_; rintro e w' ⟨rfl, v', hS'⟩)
        go_roundw
        case rel =>
          refine ⟨k + 1, v', by omega, by go_num, hS', fun j hj' => ?_⟩
          by_cases e : j = k
          · subst e; exact HD.out
          · exact hj.out j (by omega)
        case measure => simp [intOf]; omega
    · have HK : Hid (k = n) := by show k = n; omega
      go_wp2
      go_end0
      exact ⟨rfl, v, n, ⟨Nat.le_refl _, fun i hi => hj.out i (by have := HK.out; omega), fun h => absurd h (Nat.lt_irrefl _)⟩, by have e := HK.out; rw [e] at hS; exact hS⟩

/-- WHAT ZZB1eachUntilSeen LEAVES: c rules visited, their pointers in a slice of its own. -/
def SeenPost (D : Nat → Bool) (n : Nat) (w : World) (q : Nat → Nat) (e : Ending) (w' : World) : Prop :=
  ∃ (va : Option Addr) (c vc g : Nat), e = .returned (.slice va c vc) ∧ Visits D n c ∧ Ptrs w' va c g 0 q ∧ Below w.heap.size w w'

set_option maxHeartbeats 800000 in
theorem seen_any (w : World) (ra : Option Addr) (n rc g o : Nat) (q : Nat → Nat) (D : Nat → Bool) (hn : n ≤ 1048576) (hp : Ptrs w ra n g o q) (hd : ∀ i, i < n → w.cell? ⟨q i, 2, none⟩ = some (.bool (D i))) :
    Calls Try.prog 20 #[.slice ra n rc] w (SeenPost D n w q) := by
  have h0 : Seen w (w.alloc (.cells #[.slice none 0 0] 27)) w.heap.size (.slice none 0 0) 0 q := ⟨(Below.refl _ _).alloc (Nat.le_refl _) _, heap_alloc_new w _, World.ownsRow_nil _ _ _ _⟩
  go_enter Try.func20, Try.ntmps20
  go_wp2_with fail
  refine (each_any w _ ra n rc g o q D hn hp hd h0).mono ?_
  rintro e w1 ⟨rfl, v, c, hV, hS⟩
  have hc := cell_of_one hS.var
  have hb := hS.below
  have hown := hS.own
  obtain ⟨va, vc, g1, rfl, HP⟩ : ∃ va vc g1, v = .slice va c vc ∧ Hid (Ptrs w1 va c g1 0 q) := by
    rcases hown.2 with ⟨rfl, h⟩ | ⟨g1, cap, cur, rfl, hbg, hgg, hnc, hcm, hcs, htake⟩
    · subst h
      exact ⟨none, 0, 0, rfl, fun h => absurd h (Nat.not_lt_zero _), fun i hi => absurd hi (Nat.not_lt_zero _)⟩
    · refine ⟨_, cap, g1, rfl, fun _ => rfl, fun i hi => ?_⟩
      have hx := hown.cells (g := g1) rfl i (.pointer (some ⟨q i, 0, none⟩)) (by simp [hi])
      have hadd : (⟨g1, 0, none⟩ : Addr).add i = ⟨g1, 0 + i, none⟩ := by unfold Addr.add; split <;> simp_all
      rw [hadd] at hx
      exact hx
  clear hS hown h0
  go_wp2
  go_ret
  exact Exists.intro va ⟨c, vc, g1, rfl, hV, HP.out, hb⟩

end Go.Proofs.Qxb6613445a
