/-
  zzLadderLevels (8): what it makes: the outer row, then for each row its own block and one block a level.
-/
import Derived.Test.Qxb6613111aLeaf
import Derived.Test.Qxb6613111aGrid
namespace Go.Proofs.Qxb6613111a
open Go.RowKit Go.Deep

/-- How many blocks lie ahead of row r's own, behind the outer row. -/
def offs (L : Nat → Nat) : Nat → Nat
  | 0 => 0
  | r + 1 => offs L r + (L r + 1)

theorem offs_lt (L : Nat → Nat) (j : Nat) : ∀ r, j < r → offs L j + (L j + 1) ≤ offs L r
  | 0, h => absurd h (Nat.not_lt_zero _)
  | r + 1, h => by
    by_cases e : j = r
    · subst e; exact Nat.le_refl _
    · have := offs_lt L j r (by omega)
      show _ ≤ offs L r + (L r + 1)
      omega

/-- Row j's own block; a level's block. -/
def rowAt (B : Nat) (L : Nat → Nat) (j : Nat) : Nat := B + 1 + offs L j

def topF (B : Nat) (L : Nat → Nat) (r : Nat) : Nat → Value := fun j => if j < r then .slice (some ⟨rowAt B L j, 0, none⟩) (L j) (L j) else .slice none 0 0
def lvPtr (B : Nat) (L : Nat → Nat) (r c : Nat) : Value := .pointer (some ⟨rowAt B L r + 1 + c, 0, none⟩)

/-- r ROWS ARE MADE. -/
structure Outer (w wr : World) (len r : Nat) (L : Nat → Nat) (Z : Nat → Nat → Int) : Prop where
  below : Below w.heap.size w wr
  size : wr.heap.size = rowAt w.heap.size L r
  top : wr.rowIs w.heap.size 28 len (topF w.heap.size L r)
  row : ∀ j, j < r → wr.rowIs (rowAt w.heap.size L j) 27 (L j) (lvPtr w.heap.size L j)
  key : ∀ j, j < r → ∀ c, c < L j → wr.cell? ⟨rowAt w.heap.size L j + 1 + c, 4, none⟩ = some (.int .i64 (Z j c))

/-- .. AND OF ROW r, c LEVELS. -/
structure Inner (w wi : World) (len r c : Nat) (L : Nat → Nat) (Z : Nat → Nat → Int) : Prop where
  below : Below w.heap.size w wi
  size : wi.heap.size = rowAt w.heap.size L r + 1 + c
  top : wi.rowIs w.heap.size 28 len (topF w.heap.size L r)
  row : ∀ j, j < r → wi.rowIs (rowAt w.heap.size L j) 27 (L j) (lvPtr w.heap.size L j)
  key : ∀ j, j < r → ∀ c, c < L j → wi.cell? ⟨rowAt w.heap.size L j + 1 + c, 4, none⟩ = some (.int .i64 (Z j c))
  cur : wi.rowIs (rowAt w.heap.size L r) 27 (L r) (fun i => if i < c then lvPtr w.heap.size L r i else .pointer none)
  curKey : ∀ i, i < c → wi.cell? ⟨rowAt w.heap.size L r + 1 + i, 4, none⟩ = some (.int .i64 (Z r i))

theorem cell_alloc_old {w : World} {a : Addr} {v : Value} (o : Obj) (h : w.cell? a = some v) : (w.alloc o).cell? a = some v :=
  (World.cell?_of_block (w := w) (Below.heap_alloc w o a.block (World.block_lt_of_cell? _ _ h))).trans h
theorem cell_set_old {w : World} {a p : Addr} {v : Value} (u : Value) (h : w.cell? a = some v) (hne : a.block ≠ p.block) : (w.setCell p u).cell? a = some v :=
  (World.cell?_of_block (w := w) (Below.heap_setCell w p u a.block hne)).trans h

theorem outer_start (w : World) (len : Nat) (L : Nat → Nat) (Z : Nat → Nat → Int) : Outer w (w.alloc (.cells (madeCells #[.slice none 0 0] len) 28)) len 0 L Z :=
  ⟨(Below.refl _ _).alloc (Nat.le_refl _) _, by simp [rowAt, offs], (World.rowIs_made w _ len 28).congr (fun j _ => by simp [topF]), fun j hj => absurd hj (Nat.not_lt_zero _), fun j hj => absurd hj (Nat.not_lt_zero _)⟩

section
variable {w wr wi : World} {len r c : Nat} {L : Nat → Nat} {Z : Nat → Nat → Int}

theorem inner_start (h : Outer w wr len r L Z) : Inner w (wr.alloc (.cells (madeCells #[.pointer none] (L r)) 27)) len r 0 L Z := by
  have hnew := World.rowIs_made wr (.pointer none) (L r) 27
  rw [h.size] at hnew
  exact ⟨h.below.alloc (by have := h.below.size; omega) _, by simp [h.size], h.top.alloc _, fun j hj => (h.row j hj).alloc _, fun j hj c hc => cell_alloc_old _ (h.key j hj c hc), hnew.congr (fun i _ => by simp), fun i hi => absurd hi (Nat.not_lt_zero _)⟩

theorem inner_step (h : Inner w wi len r c L Z) :
    Inner w ((wi.alloc (.cells (lvCells (Z r c)) 56)).setCell ⟨rowAt w.heap.size L r, c, none⟩ (.pointer (some ⟨rowAt w.heap.size L r + 1 + c, 0, none⟩))) len r (c + 1) L Z := by
  have hge : w.heap.size ≤ rowAt w.heap.size L r := by unfold rowAt; omega
  have hs := h.size
  refine ⟨(h.below.alloc (by omega) _).setCell hge _, by simp [hs]; omega, (h.top.alloc _).setOther (by show w.heap.size ≠ rowAt w.heap.size L r; unfold rowAt; omega) _,
    fun j hj => ((h.row j hj).alloc _).setOther (by show rowAt w.heap.size L j ≠ rowAt w.heap.size L r; have := offs_lt L j r hj; unfold rowAt; omega) _,
    fun j hj c' hc' => cell_set_old _ (cell_alloc_old _ (h.key j hj c' hc')) (by show rowAt w.heap.size L j + 1 + c' ≠ rowAt w.heap.size L r; have := offs_lt L j r hj; unfold rowAt; omega),
    ((h.cur.alloc _).set c _).congr (fun i _ => ?_), fun i hi => ?_⟩
  · by_cases e : i = c
    · subst e; simp [lvPtr]
    · rw [if_neg e]
      by_cases hlt : i < c
      · rw [if_pos hlt, if_pos (by omega)]
      · rw [if_neg hlt, if_neg (by omega)]
  · by_cases e : i = c
    · subst e
      refine cell_set_old _ ?_ (by show rowAt w.heap.size L r + 1 + i ≠ rowAt w.heap.size L r; omega)
      rw [← hs]
      simp [lvCells]
    · exact cell_set_old _ (cell_alloc_old _ (h.curKey i (by omega))) (by show rowAt w.heap.size L r + 1 + i ≠ rowAt w.heap.size L r; omega)

theorem inner_done (h : Inner w wi len r (L r) L Z) : Outer w (wi.setCell ⟨w.heap.size, r, none⟩ (.slice (some ⟨rowAt w.heap.size L r, 0, none⟩) (L r) (L r))) len (r + 1) L Z := by
  have hge : w.heap.size < rowAt w.heap.size L r := by unfold rowAt; omega
  refine ⟨h.below.setCell (Nat.le_refl _) _, by simp [h.size]; simp [rowAt, offs]; omega, (h.top.set r _).congr (fun j _ => ?_), fun j hj => ?_, fun j hj c' hc' => ?_⟩
  · simp only [topF]
    by_cases e : j = r
    · subst e; simp
    · rw [if_neg e]
      by_cases hlt : j < r
      · rw [if_pos hlt, if_pos (by omega)]
      · rw [if_neg hlt, if_neg (by omega)]
  · have hne : rowAt w.heap.size L j ≠ w.heap.size := by unfold rowAt; omega
    by_cases e : j = r
    · subst e
      exact (h.cur.setOther hne _).congr (fun i hi => by rw [if_pos hi])
    · exact (h.row j (by omega)).setOther hne _
  · have hne : rowAt w.heap.size L j + 1 + c' ≠ w.heap.size := by unfold rowAt; omega
    by_cases e : j = r
    · subst e
      exact cell_set_old _ (h.curKey c' hc') hne
    · exact cell_set_old _ (h.key j (by omega) c' hc') hne

end

theorem Grid.rowP {w : World} {b o len : Nat} {A : Nat → Option Addr} {L C Ab Ao : Nat → Nat} {Z : Nat → Nat → Int} (g : Grid w b o len A L C Ab Ao Z) {r : Nat} (hr : r < len) (h : 0 < L r) : w.cell? ⟨b, o + r, none⟩ = some (.slice (some ⟨Ab r, Ao r, none⟩) (L r) (C r)) := by
  rw [g.row r hr, (g.key r hr 0 h).1]

section
variable (b o len cap : Nat) (A : Nat → Option Addr) (L C Ab Ao : Nat → Nat) (Z : Nat → Nat → Int) (w : World)

set_option maxRecDepth 100000 in
set_option maxHeartbeats 1600000 in
theorem levels_any (hl0 : 0 < len) (hl : len ≤ 1048576) (hL : ∀ i, i < len → L i ≤ 1048576) (hpos : ∀ i, i < len → 0 < L i) (g : Grid w b o len A L C Ab Ao Z) :
    Calls Try.prog 8 #[.slice (some ⟨b, o, none⟩) len cap] w fun e w' => e = .returned (.slice (some ⟨w.heap.size, 0, none⟩) len len) ∧ Outer w w' len len L Z := by
  have hmk := run_make_row' (P := Try.prog) 25 28 (.slice none 0 0) 24 Try.underlying25 info28 rfl .i64 .i64 len (by omega) (by omega)
  have hnil : ∀ w, (binOp .eql 22 (.slice (some ⟨b, o, none⟩) len cap) (.slice none 0 0)).run Try.prog w = .ok (.bool false) w := fun w => Lib.run_eql_slice_nil w 22 24 (some ⟨b, o, none⟩) len cap 0 0 Try.underlying22
  go_enter Try.func8, Try.ntmps8
  go_wp2
  go_loopw [16] (fun i wr => ∃ k : Nat, k ≤ len ∧ i = .int .i64 k ∧ Outer w wr len k L Z) (fun i _ => len - (intOf i).toNat)
  case atStart => exact ⟨0, Nat.zero_le _, rfl, outer_start w len L Z⟩
  case round =>
    obtain ⟨k, hk, rfl, hO⟩ := hrel
    clear hmk
    have hsize := hO.size
    by_cases hlt : k < len
    · have hLk := hL k hlt
      have g' := g.below hO.below
      have hc := g'.rowP hlt (hpos k hlt)
      have hmk2 := run_make_row' (P := Try.prog) 28 27 (.pointer none) 8 Try.underlying28 info27 rfl .i64 .i64 (L k) (by omega) (by omega)
      clear hL
      go_wp2
      have hI0 := inner_start hO
      clear hmk2 hsize hO hc g'
      go_loopw [26] (fun i wi => ∃ c : Nat, c ≤ L k ∧ i = .int .i64 c ∧ Inner w wi len k c L Z) (fun i _ => L k - (intOf i).toNat)
      case atStart => exact ⟨0, Nat.zero_le _, rfl, hI0⟩
      case round =>
        obtain ⟨c, hc, rfl, hI⟩ := hrel
        clear hI0
        have hsize := hI.size
        by_cases hlc : c < L k
        · have g' := g.below hI.below
          have hcell := (g'.key k hlt c hlc).2
          have s1 : ∀ o, (wr.alloc o).cell? ⟨rowAt w.heap.size L k, c, none⟩ = some (.pointer none) := fun o => by simpa using (hI.cur.alloc o).cell hlc
          have s2 : ∀ o, (wr.alloc o).frozen? ⟨rowAt w.heap.size L k, c, none⟩ = false := fun o => (hI.cur.alloc o).frozen c
          clear g'
          go_wp2_with (go_at_call 13; refine (newLevel_any _ _).mono ?_; rintro e w' ⟨rfl, rfl⟩)
          have R := inner_step hI
          go_roundw
          case rel => exact ⟨c + 1, by omega, by go_num, R⟩
          case measure => simp [intOf]; omega
        · have hcL : c = L k := by omega
          subst hcL
          have s1 : wr.cell? ⟨w.heap.size, k, none⟩ = some (.slice none 0 0) := by simpa [topF] using hI.top.cell hlt
          have s2 : wr.frozen? ⟨w.heap.size, k, none⟩ = false := hI.top.frozen k
          have R := inner_done hI
          have HR : Hid _ := R
          clear R
          go_wp2
          go_roundw
          case rel => exact ⟨k + 1, by omega, by go_num, HR.out⟩
          case measure => simp [intOf]; omega
    · have HC : Hid (k = len) := by show k = len; omega
      go_wp2
      go_ret
      exact ⟨rfl, by have e := HC.out; rw [e] at hO; exact hO⟩
end
end Go.Proofs.Qxb6613111a
