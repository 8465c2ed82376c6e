/-
  CONTRACTS: zzBytes (18), ZZB1newRule (22), polb1BuildRun (19), polb1FirstDeny (21).
-/
import Derived.Test.Qxb6613445aRows
import Derived.Test.Qxb6613445aPlain
import Derived.WalkKit
import Derived.WalkSpells
import Derived.WalkLawsBesides
import Derived.Deep.QuietTactic
import Derived.BigQuiet
import Derived.Deep.OwnRows
import Derived.Deep.Draws
import Derived.LaidEqlPtr
namespace Go.Proofs.Qxb6613445a
open Go.RowKit Go.Deep

theorem info50 : (Try.prog.info? 50).map (fun i => (i.zero, i.size, i.bytes)) = some (some (.pointer none), 1, 8) := by kernel_rfl
theorem info73 : (Try.prog.info? 73).isSome = true := by kernel_rfl

theorem neq_same (q : Nat) (w : World) : (binOp .neq 50 (.pointer (some ⟨q, 0, none⟩)) (.pointer (some ⟨q, 0, none⟩))).run Try.prog w = .ok (.bool false) w := by
  obtain ⟨j, hj⟩ := Option.isSome_iff_exists.1 info73
  have h : ∀ d : Nat, (Op.equalIn (d + 1) 50 (.pointer (some ⟨q, 0, none⟩)) (.pointer (some ⟨q, 0, none⟩))).run Try.prog w = .ok true w := fun d => by
    simp [Op.equalIn, run_underlying Try.underlying50, sizeOf, typeInfo, hj, run_sameAddr_same]
  simp only [binOp]
  simp [Op.equal, Op.maxDepth, h 9999]

set_option maxHeartbeats 400000 in
theorem newRule_any (n : Int) (d : Bool) (w : World) :
    Calls Try.prog 22 #[.string ⟨#[]⟩, .int .i64 n, .bool d, .agg #[.string ⟨#[]⟩, .string ⟨#[]⟩], .string ⟨#[]⟩, .string ⟨#[]⟩] w fun e w' => e = .returned (.pointer (some ⟨w.heap.size + 1, 0, none⟩)) ∧ Below w.heap.size w w' ∧ w'.heap.size = w.heap.size + 2 ∧ w'.cell? ⟨w.heap.size + 1, 2, none⟩ = some (.bool d) := by
  go_enter Try.func22, Try.ntmps22
  go_wp2
  go_ret
  exact ⟨rfl, ((Below.refl _ _).alloc (Nat.le_refl _) _).alloc (by simp) _, by simp, by simp⟩

set_option maxHeartbeats 400000 in
theorem bytes_any (a : Option Addr) (n c : Nat) (k : Int) (w : World) :
    Calls Try.prog 18 #[.slice a n c, .int .i64 k] w fun e w' => e = .returned (.bool (decide ((n : Int) ≤ 1048576))) ∧ w = w' := by
  by_cases h : 1048576 < n
  · have hd : decide ((n : Int) ≤ 1048576) = false := by simp; omega
    rw [hd]
    go_enter Try.func18, Try.ntmps18
    go_wp2
    go_ret
    exact ⟨rfl, rfl⟩
  · have hd : decide ((n : Int) ≤ 1048576) = true := by simp; omega
    rw [hd]
    clear hd
    have h' : n ≤ 1048576 := by omega
    clear h
    go_enter Try.func18, Try.ntmps18
    go_wp2
    go_ret
    exact ⟨rfl, rfl⟩

/-- THE BOOLS THAT CAME IN. -/
structure Bits (w : World) (a0 : Option Addr) (len b o : Nat) (D : Nat → Bool) : Prop where
  ptr : 0 < len → a0 = some ⟨b, o, none⟩
  cell : ∀ i, i < len → w.cell? ⟨b, o + i, none⟩ = some (.bool (D i))

theorem Bits.below {w w' : World} {a0 : Option Addr} {len b o : Nat} {D : Nat → Bool} (g : Bits w a0 len b o D) (h : Below w.heap.size w w') : Bits w' a0 len b o D :=
  ⟨g.ptr, fun i hi => (h.cell (p := ⟨b, o + i, none⟩) (World.block_lt_of_cell? _ _ (g.cell i hi))).trans (g.cell i hi)⟩

def DenyPost (D : Nat → Bool) (len : Nat) (w : World) (e : Ending) (w' : World) : Prop := ∃ m : Nat, e = .returned (.int .i64 m) ∧ FirstDeny D len m ∧ w = w'

set_option maxHeartbeats 400000 in
theorem firstDeny_any (a0 : Option Addr) (len cap b o : Nat) (D : Nat → Bool) (w : World) (hl : len ≤ 1048576) (g : Bits w a0 len b o D) :
    Calls Try.prog 21 #[.slice a0 len cap] w (DenyPost D len w) := by
  go_enter Try.func21, Try.ntmps21
  go_wp2
  go_loop [3] (fun i => ∃ k : Nat, k ≤ len ∧ i = .int .i64 k ∧ Hid (∀ j, j < k → D j = false)) (fun i => len - (intOf i).toNat)
  case atStart => exact ⟨0, Nat.zero_le _, rfl, fun j hj => absurd hj (Nat.not_lt_zero _)⟩
  case round =>
    obtain ⟨k, hk, rfl, hj⟩ := hrel
    by_cases hlt : k < len
    · obtain rfl := g.ptr (by omega)
      have hc := g.cell k hlt
      cases hD : D k with
      | true =>
        have HD : Hid (D k = true) := hD
        rw [hD] at hc
        clear hD
        go_wp2
        go_ret
        exact Exists.intro k ⟨rfl, ⟨hk, hj.out, fun _ => HD.out⟩, rfl⟩
      | false =>
        have HD : Hid (D k = false) := hD
        rw [hD] at hc
        clear hD
        go_wp2
        go_round
        case rel =>
          refine ⟨k + 1, by omega, by go_num, fun j hj' => ?_⟩
          by_cases e : j = k
          · subst e; exact HD.out
          · exact hj.out j (by omega)
        case measure => simp [intOf]; omega
    · have HK : Hid (k = len) := by show k = len; omega
      go_wp2
      go_ret
      exact Exists.intro len ⟨rfl, ⟨Nat.le_refl _, by rw [← HK.out]; exact hj.out, fun h => absurd h (Nat.lt_irrefl _)⟩, rfl⟩

/-- Rule i's own block. -/
def ruleAt (B i : Nat) : Nat := B + 2 + 2 * i

/-- c RULES ARE BUILT. -/
structure Built (w wr : World) (len c : Nat) (D : Nat → Bool) : Prop where
  below : Below w.heap.size w wr
  size : wr.heap.size = w.heap.size + 1 + 2 * c
  row : wr.rowIs w.heap.size 50 len (fun i => if i < c then .pointer (some ⟨ruleAt w.heap.size i, 0, none⟩) else .pointer none)
  deny : ∀ i, i < c → wr.cell? ⟨ruleAt w.heap.size i, 2, none⟩ = some (.bool (D i))

theorem built_start (w : World) (len : Nat) (D : Nat → Bool) : Built w (w.alloc (.cells (madeCells #[.pointer none] len) 50)) len 0 D :=
  ⟨(Below.refl _ _).alloc (Nat.le_refl _) _, by simp, (World.rowIs_made w _ len 50).congr (fun i _ => by simp), fun i hi => absurd hi (Nat.not_lt_zero _)⟩

theorem cell_set_old {w : World} {a p : Addr} {v : Value} (u : Value) (h : w.cell? a = some v) (hne : a.block ≠ p.block) : (w.setCell p u).cell? a = some v :=
  (World.cell?_of_block (w := w) (Below.heap_setCell w p u a.block hne)).trans h

theorem built_step {w wr w1 : World} {len c : Nat} {D : Nat → Bool} (h : Built w wr len c D) (hb : Below wr.heap.size wr w1) (hs : w1.heap.size = wr.heap.size + 2) (hd : w1.cell? ⟨wr.heap.size + 1, 2, none⟩ = some (.bool (D c))) :
    Built w (w1.setCell ⟨w.heap.size, c, none⟩ (.pointer (some ⟨wr.heap.size + 1, 0, none⟩))) len (c + 1) D := by
  have hsz := h.size
  refine ⟨(h.below.trans (hb.mono (by have := h.below.size; omega))).setCell (Nat.le_refl _) _, by simp [hs, hsz]; omega, ((h.row.of_block (hb.block _ h.row.lt)).set c _).congr (fun i _ => ?_), fun i hi => ?_⟩
  · by_cases e : i = c
    · subst e
      simp only [if_true]
      rw [if_pos (by omega)]
      simp [ruleAt, hsz]
    · rw [if_neg e]
      by_cases hlt : i < c
      · rw [if_pos hlt, if_pos (by omega)]
      · rw [if_neg hlt, if_neg (by omega)]
  · refine cell_set_old _ ?_ (by show ruleAt w.heap.size i ≠ w.heap.size; unfold ruleAt; omega)
    by_cases e : i = c
    · subst e
      rw [show ruleAt w.heap.size i = wr.heap.size + 1 by unfold ruleAt; omega]
      exact hd
    · have hc := h.deny i (by omega)
      exact (hb.cell (p := ⟨ruleAt w.heap.size i, 2, none⟩) (World.block_lt_of_cell? _ _ hc)).trans hc

set_option maxRecDepth 100000 in
set_option maxHeartbeats 800000 in
theorem buildRun_any (a0 : Option Addr) (len cap b o : Nat) (D : Nat → Bool) (w : World) (hl : len ≤ 1048576) (g : Bits w a0 len b o D) :
    Calls Try.prog 19 #[.slice a0 len cap] w fun e w' => e = .returned (.slice (some ⟨w.heap.size, 0, none⟩) len len) ∧ Built w w' len len D := by
  have hmk := run_make_row' (P := Try.prog) 27 50 (.pointer none) 8 Try.underlying27 info50 rfl .i64 .i64 len (by omega) (by omega)
  go_enter Try.func19, Try.ntmps19
  go_wp2
  go_loopw [4] (fun i wr => ∃ k : Nat, k ≤ len ∧ i = .int .i64 k ∧ Built w wr len k D) (fun i _ => len - (intOf i).toNat)
  case atStart => exact ⟨0, Nat.zero_le _, rfl, built_start w len D⟩
  case round =>
    obtain ⟨k, hk, rfl, hB⟩ := hrel
    clear hmk
    by_cases hlt : k < len
    · have g' := g.below hB.below
      obtain rfl := g.ptr (by omega)
      have hc := g'.cell k hlt
      go_wp2_with fail
      refine (newRule_any _ _ _).mono ?_
      rintro e w1 ⟨rfl, hb1, hs1, hd1⟩
      have R := built_step hB hb1 hs1 hd1
      have hr1 := hB.row.of_block (hb1.block _ hB.row.lt)
      have s1 : w1.cell? ⟨w.heap.size, k, none⟩ = some (.pointer none) := by simpa using hr1.cell hlt
      have s2 : w1.frozen? ⟨w.heap.size, k, none⟩ = false := hr1.frozen k
      have HR : Hid _ := R
      clear R hr1 hs1 hd1 hb1
      go_wp2
      go_roundw
      case rel => exact ⟨k + 1, by omega, by go_num, HR.out⟩
      case measure => simp [intOf]; omega
    · have HC : Hid (k = len) := by show k = len; omega
      go_wp2
      go_ret
      exact ⟨rfl, by have e := HC.out; rw [e] at hB; exact hB⟩

end Go.Proofs.Qxb6613445a
