/-
  CONTRACTS OF THE LEAVES: ZZnewLevel (13), ZZnewLadder (10), ZZLevelKey (11), (*ladder).best (19), ZZbest (9).
-/
import Derived.Test.Qxb6613111aRows
import Derived.WalkKit
import Derived.WalkSpells
import Derived.WalkLawsBesides
import Derived.Deep.QuietTactic
import Derived.BigQuiet
import Derived.Deep.OwnRows
import Derived.Deep.Draws
import Derived.LaidEqlPtr
namespace Go.Proofs.Qxb6613111a
open Go.RowKit Go.Deep

theorem info27 : (Try.prog.info? 27).map (fun i => (i.zero, i.size, i.bytes)) = some (some (.pointer none), 1, 8) := by kernel_rfl
theorem info28 : (Try.prog.info? 28).map (fun i => (i.zero, i.size, i.bytes)) = some (some (.slice none 0 0), 1, 24) := by kernel_rfl

theorem info56 : (Try.prog.info? 56).isSome = true := by kernel_rfl

/-- A level's pointer against itself. -/
theorem eql_same (q : Nat) (w : World) : (binOp .eql 27 (.pointer (some ⟨q, 0, none⟩)) (.pointer (some ⟨q, 0, none⟩))).run Try.prog w = .ok (.bool true) w := by
  obtain ⟨j, hj⟩ := Option.isSome_iff_exists.1 info56
  exact run_eql_ptr_same w _ Try.underlying27 hj

theorem neq_same (q : Nat) (w : World) : (binOp .neq 27 (.pointer (some ⟨q, 0, none⟩)) (.pointer (some ⟨q, 0, none⟩))).run Try.prog w = .ok (.bool false) w := by
  obtain ⟨j, hj⟩ := Option.isSome_iff_exists.1 info56
  have h : ∀ d : Nat, (Op.equalIn (d + 1) 27 (.pointer (some ⟨q, 0, none⟩)) (.pointer (some ⟨q, 0, none⟩))).run Try.prog w = .ok true w := fun d => by
    simp [Op.equalIn, run_underlying Try.underlying27, sizeOf, typeInfo, hj, run_sameAddr_same]
  simp only [binOp]
  simp [Op.equal, Op.maxDepth, h 9999]

/-- The cells of one level of key k. -/
def lvCells (k : Int) : Array Value := #[.int .i64 0, .int .u64 0, .pointer none, .int .i32 0, .int .i64 k, .bool true, .slice none 0 0, .int .i64 0]

set_option maxHeartbeats 400000 in
theorem newLevel_any (k : Int) (w : World) :
    Calls Try.prog 13 #[.int .i64 k] w fun e w' => e = .returned (.pointer (some ⟨w.heap.size, 0, none⟩)) ∧ w' = w.alloc (.cells (lvCells k) 56) := by
  go_enter Try.func13, Try.ntmps13
  go_wp2
  go_ret
  exact ⟨rfl, rfl⟩

set_option maxHeartbeats 400000 in
theorem newLadder_any (a : Option Addr) (n c : Nat) (w : World) :
    Calls Try.prog 10 #[.slice a n c] w fun e w' => e = .returned (.pointer (some ⟨w.heap.size, 0, none⟩)) ∧ w' = w.alloc (.cells #[.slice a n c, .pointer none] 47) := by
  go_enter Try.func10, Try.ntmps10
  go_wp2
  go_ret
  exact ⟨rfl, rfl⟩

set_option maxHeartbeats 400000 in
theorem levelKey_any (b : Nat) (k : Int) (w : World) (h : w.cell? ⟨b, 4, none⟩ = some (.int .i64 k)) :
    Calls Try.prog 11 #[.pointer (some ⟨b, 0, none⟩)] w fun e w' => e = .returned (.int .i64 k) ∧ w' = w := by
  go_enter Try.func11, Try.ntmps11
  go_wp2
  go_ret
  exact ⟨rfl, rfl⟩

set_option maxHeartbeats 400000 in
theorem best_none (b : Nat) (a : Option Addr) (c : Nat) (w : World) (h : w.cell? ⟨b, 0, none⟩ = some (.slice a 0 c)) :
    Calls Try.prog 19 #[.pointer (some ⟨b, 0, none⟩)] w fun e w' => e = .returned (.pointer none) ∧ ∃ m, w' = w.drewN m := by
  go_enter Try.func19, Try.ntmps19
  go_wp2
  go_ret
  exact ⟨rfl, 0, rfl⟩

set_option maxHeartbeats 400000 in
theorem best_some (b g n c h m c' : Nat) (v : Value) (w : World) (hn : 0 < n) (hn' : n ≤ 9223372036854775807) (hm : 0 < m) (hm' : m ≤ 9223372036854775807)
    (h0 : w.cell? ⟨b, 0, none⟩ = some (.slice (some ⟨g, 0, none⟩) n c)) (h1 : w.cell? ⟨g, n - 1, none⟩ = some (.slice (some ⟨h, 0, none⟩) m c')) (h2 : w.cell? ⟨h, m - 1, none⟩ = some v) :
    Calls Try.prog 19 #[.pointer (some ⟨b, 0, none⟩)] w fun e w' => e = .returned v ∧ ∃ m, w' = w.drewN m := by
  have hne : ((n : Int) == 0) = false := by simp; omega
  have hb1 : (0 : Int) ≤ (n : Int) - 1 := by omega
  have hb2 : (n : Int) - 1 < (n : Int) := by omega
  have hb3 : (0 : Int) ≤ (m : Int) - 1 := by omega
  have hb4 : (m : Int) - 1 < (m : Int) := by omega
  go_enter Try.func19, Try.ntmps19
  go_wp2
  go_quiet (fail)
  go_wp2
  go_ret
  exact ⟨rfl, _, rfl⟩

set_option maxHeartbeats 400000 in
theorem zbest_none (b : Nat) (a : Option Addr) (c : Nat) (w : World) (h : w.cell? ⟨b, 0, none⟩ = some (.slice a 0 c)) :
    Calls Try.prog 9 #[.pointer (some ⟨b, 0, none⟩)] w fun e w' => e = .returned (.pointer none) ∧ ∃ m, w' = w.drewN m := by
  go_enter Try.func9, Try.ntmps9
  go_wp2_with (go_at_call 19; refine (best_none b a c _ h).mono ?_; rintro e w' ⟨rfl, m, rfl⟩)
  go_ret
  exact ⟨rfl, _, rfl⟩

set_option maxHeartbeats 400000 in
theorem zbest_some (b g n c h m c' : Nat) (v : Value) (w : World) (hn : 0 < n) (hn' : n ≤ 9223372036854775807) (hm : 0 < m) (hm' : m ≤ 9223372036854775807)
    (h0 : w.cell? ⟨b, 0, none⟩ = some (.slice (some ⟨g, 0, none⟩) n c)) (h1 : w.cell? ⟨g, n - 1, none⟩ = some (.slice (some ⟨h, 0, none⟩) m c')) (h2 : w.cell? ⟨h, m - 1, none⟩ = some v) :
    Calls Try.prog 9 #[.pointer (some ⟨b, 0, none⟩)] w fun e w' => e = .returned v ∧ ∃ m, w' = w.drewN m := by
  go_enter Try.func9, Try.ntmps9
  go_wp2_with (go_at_call 19; refine (best_some b g n c h m c' v _ hn hn' hm hm' h0 h1 h2).mono ?_; rintro e w' ⟨rfl, m, rfl⟩)
  go_ret
  exact ⟨rfl, _, rfl⟩

end Go.Proofs.Qxb6613111a
