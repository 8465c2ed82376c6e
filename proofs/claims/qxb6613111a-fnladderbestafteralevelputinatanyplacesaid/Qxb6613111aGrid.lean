/-
  WHAT IS READ OF '[][]int64': zzBytes (6, 12), zzLadderShape (7).
-/
import Derived.Test.Qxb6613111aRows
import Derived.WalkKit
import Derived.WalkSpells
import Derived.WalkLawsBesides
import Derived.Deep.OwnRows
import Derived.Deep.Draws
namespace Go.Proofs.Qxb6613111a
open Go.RowKit Go.Deep

/-- THE ROWS THAT CAME IN: row r lies at ⟨b, o + r⟩, is L r long; its key c is Z r c. -/
structure Grid (w : World) (b o len : Nat) (A : Nat → Option Addr) (L C Ab Ao : Nat → Nat) (Z : Nat → Nat → Int) : Prop where
  row : ∀ r, r < len → w.cell? ⟨b, o + r, none⟩ = some (.slice (A r) (L r) (C r))
  key : ∀ r, r < len → ∀ c, c < L r → A r = some ⟨Ab r, Ao r, none⟩ ∧ w.cell? ⟨Ab r, Ao r + c, none⟩ = some (.int .i64 (Z r c))

theorem Grid.below {w w' : World} {b o len : Nat} {A : Nat → Option Addr} {L C Ab Ao : Nat → Nat} {Z : Nat → Nat → Int} (g : Grid w b o len A L C Ab Ao Z) (h : Below w.heap.size w w') : Grid w' b o len A L C Ab Ao Z :=
  ⟨fun r hr => (h.cell (p := ⟨b, o + r, none⟩) (World.block_lt_of_cell? _ _ (g.row r hr))).trans (g.row r hr),
   fun r hr c hc => ⟨(g.key r hr c hc).1, (h.cell (p := ⟨Ab r, Ao r + c, none⟩) (World.block_lt_of_cell? _ _ (g.key r hr c hc).2)).trans (g.key r hr c hc).2⟩⟩

/-- What zzBytes leaves: a bool; where it is true, no length is beyond 1 << 20. -/
def BytesPost (len : Nat) (L : Nat → Nat) (w : World) (e : Ending) (w' : World) : Prop := ∃ r : Bool, e = .returned (.bool r) ∧ (r = true → len ≤ 1048576 ∧ ∀ i, i < len → L i ≤ 1048576) ∧ w = w'

section
variable (b o len cap : Nat) (A : Nat → Option Addr) (L C Ab Ao : Nat → Nat) (Z : Nat → Nat → Int) (w : World)

set_option maxHeartbeats 400000 in
theorem bytes6_any (hl : len ≤ 9223372036854775807) (g : Grid w b o len A L C Ab Ao Z) :
    Calls Try.prog 6 #[.slice (some ⟨b, o, none⟩) len cap] w (BytesPost len L w) := by
  by_cases hbig : 1048576 < len
  · go_enter Try.func6, Try.ntmps6
    go_wp2
    go_ret
    exact Exists.intro false ⟨rfl, (fun h => by cases h), rfl⟩
  have hle : len ≤ 1048576 := by omega
  clear hbig
  go_enter Try.func6, Try.ntmps6
  go_wp2
  go_loop [3, 4] (fun n i => ∃ (k : Nat) (z : Int), k ≤ len ∧ i = .int .i64 k ∧ n = .int .i64 z ∧ 0 ≤ z ∧ z ≤ 1048576 ∧ ∀ j, j < k → L j ≤ 1048576) (fun _ i => len - (intOf i).toNat)
  case atStart => exact ⟨0, len, Nat.zero_le _, rfl, rfl, by omega, by omega, by omega⟩
  case round =>
    obtain ⟨k, z, hk, rfl, rfl, hz0, hz1, hj⟩ := hrel
    by_cases hlt : k < len
    · have hc := g.row k hlt
      have HJ : Hid (∀ j, j < k → L j ≤ 1048576) := hj
      clear hj
      go_wp2
      · go_ret
        exact Exists.intro false ⟨rfl, (fun h => by cases h), rfl⟩
      · go_ret
        exact Exists.intro false ⟨rfl, (fun h => by cases h), rfl⟩
      · go_round
        case rel =>
          refine ⟨k + 1, _, by omega, by go_num, rfl, by omega, by omega, fun j hj => ?_⟩
          by_cases e : j = k
          · subst e; omega
          · exact HJ.out j (by omega)
        case measure => simp [intOf]; omega
    · go_wp2
      go_ret
      exact Exists.intro true ⟨rfl, fun _ => ⟨hle, fun i hi => hj i (by omega)⟩, rfl⟩

set_option maxHeartbeats 400000 in
theorem bytes12_any (x y : Int) (hl : len ≤ 9223372036854775807) (g : Grid w b o len A L C Ab Ao Z) :
    Calls Try.prog 12 #[.slice (some ⟨b, o, none⟩) len cap, .int .i64 x, .int .i64 y] w (BytesPost len L w) := by
  by_cases hbig : 1048576 < len
  · go_enter Try.func12, Try.ntmps12
    go_wp2
    go_ret
    exact Exists.intro false ⟨rfl, (fun h => by cases h), rfl⟩
  have hle : len ≤ 1048576 := by omega
  clear hbig
  go_enter Try.func12, Try.ntmps12
  go_wp2
  go_loop [7, 8] (fun n i => ∃ (k : Nat) (z : Int), k ≤ len ∧ i = .int .i64 k ∧ n = .int .i64 z ∧ 0 ≤ z ∧ z ≤ 1048576 ∧ ∀ j, j < k → L j ≤ 1048576) (fun _ i => len - (intOf i).toNat)
  case atStart => exact ⟨0, len, Nat.zero_le _, rfl, rfl, by omega, by omega, by omega⟩
  case round =>
    obtain ⟨k, z, hk, rfl, rfl, hz0, hz1, hj⟩ := hrel
    by_cases hlt : k < len
    · have hc := g.row k hlt
      have HJ : Hid (∀ j, j < k → L j ≤ 1048576) := hj
      clear hj
      go_wp2
      · go_ret
        exact Exists.intro false ⟨rfl, (fun h => by cases h), rfl⟩
      · go_ret
        exact Exists.intro false ⟨rfl, (fun h => by cases h), rfl⟩
      · go_round
        case rel =>
          refine ⟨k + 1, _, by omega, by go_num, rfl, by omega, by omega, fun j hj => ?_⟩
          by_cases e : j = k
          · subst e; omega
          · exact HJ.out j (by omega)
        case measure => simp [intOf]; omega
    · go_wp2
      go_ret
      exact Exists.intro true ⟨rfl, fun _ => ⟨hle, fun i hi => hj i (by omega)⟩, rfl⟩

end

/-- The key ahead of key c of row r. -/
def prevK (L : Nat → Nat) (Z : Nat → Nat → Int) (r c : Nat) : Int := if c = 0 then Z (r - 1) (L (r - 1) - 1) else Z r (c - 1)

theorem prevK_succ (L : Nat → Nat) (Z : Nat → Nat → Int) (r c : Nat) : prevK L Z r (c + 1) = Z r c := by simp [prevK]
theorem prevK_next (L : Nat → Nat) (Z : Nat → Nat → Int) (r : Nat) (h : 0 < L r) : prevK L Z r (L r) = prevK L Z (r + 1) 0 := by
  unfold prevK
  rw [if_neg (by omega), if_pos rfl]
  rfl

/-- Key c of row r rises above the one ahead of it. -/
def Rises (L : Nat → Nat) (Z : Nat → Nat → Int) (r c : Nat) : Prop := (r = 0 ∧ c = 0) ∨ prevK L Z r c < Z r c

/-- EVERY ROW HOLDS A KEY, AND THE KEYS RISE. -/
def Rising (len : Nat) (L : Nat → Nat) (Z : Nat → Nat → Int) : Prop := ∀ r, r < len → 0 < L r ∧ ∀ c, c < L r → Rises L Z r c

def ShapePost (len : Nat) (L : Nat → Nat) (Z : Nat → Nat → Int) (w : World) (e : Ending) (w' : World) : Prop := ∃ r : Bool, e = .returned (.bool r) ∧ (r = true → Rising len L Z) ∧ w = w'

theorem Rising.succ {k : Nat} {L : Nat → Nat} {Z : Nat → Nat → Int} (h : Rising k L Z) (h0 : 0 < L k) (h1 : ∀ c, c < L k → Rises L Z k c) : Rising (k + 1) L Z := by
  intro r hr
  by_cases e : r = k
  · subst e; exact ⟨h0, h1⟩
  · exact h r (by omega)

theorem rises_succ {k c : Nat} {L : Nat → Nat} {Z : Nat → Nat → Int} (h : ∀ j, j < c → Rises L Z k j) (h1 : Rises L Z k c) : ∀ j, j < c + 1 → Rises L Z k j := by
  intro j hj
  by_cases e : j = c
  · subst e; exact h1
  · exact h j (by omega)

section
variable (b o len cap : Nat) (A : Nat → Option Addr) (L C Ab Ao : Nat → Nat) (Z : Nat → Nat → Int) (w : World)

set_option maxHeartbeats 800000 in
theorem shape_any (hl : len ≤ 1048576) (hL : ∀ i, i < len → L i ≤ 1048576) (g : Grid w b o len A L C Ab Ao Z) :
    Calls Try.prog 7 #[.slice (some ⟨b, o, none⟩) len cap] w (ShapePost len L Z w) := by
  go_enter Try.func7, Try.ntmps7
  go_wp2
  go_loop [3, 4, 11] (fun f p i => ∃ (k : Nat) (f' : Bool) (p' : Int), k ≤ len ∧ i = .int .i64 k ∧ f = .bool f' ∧ p = .int .i64 p' ∧ Hid ((f' = true ∧ k = 0) ∨ (f' = false ∧ p' = prevK L Z k 0)) ∧ Rising k L Z) (fun _ _ i => len - (intOf i).toNat)
  case atStart => exact ⟨0, true, 0, Nat.zero_le _, rfl, rfl, rfl, .inl ⟨rfl, rfl⟩, fun r hr => absurd hr (Nat.not_lt_zero _)⟩
  case round =>
    obtain ⟨k, f', p', hk, rfl, rfl, rfl, hfp, hR⟩ := hrel
    by_cases hlt : k < len
    · have hc := g.row k hlt
      have hLk := hL k hlt
      have hkey := g.key k hlt
      clear hL
      by_cases h0 : L k = 0
      · have h0' : ((L k : Int) == 0) = true := by simp; omega
        clear h0 hkey
        go_wp2
        go_ret
        exact Exists.intro false ⟨rfl, (fun h => by cases h), rfl⟩
      · have h0' : ((L k : Int) == 0) = false := by simp; omega
        have hpos : 0 < L k := by omega
        clear h0
        go_wp2
        go_loop [3, 4, 20] (fun f p i => ∃ (c : Nat) (f1 : Bool) (p1 : Int), c ≤ L k ∧ i = .int .i64 c ∧ f = .bool f1 ∧ p = .int .i64 p1 ∧ Hid ((f1 = true ∧ k = 0 ∧ c = 0) ∨ (f1 = false ∧ p1 = prevK L Z k c)) ∧ Hid (∀ j, j < c → Rises L Z k j)) (fun _ _ i => L k - (intOf i).toNat)
        case atStart =>
          refine ⟨0, f', p', Nat.zero_le _, rfl, rfl, rfl, ?_, fun j hj => absurd hj (Nat.not_lt_zero _)⟩
          rcases hfp.out with ⟨h1, h2⟩ | h1
          · exact .inl ⟨h1, h2, rfl⟩
          · exact .inr h1
        case round =>
          obtain ⟨c, f1, p1, hc1, rfl, rfl, rfl, hfp1, hR1⟩ := hrel
          clear hfp
          by_cases hlc : c < L k
          · obtain ⟨hA, hcell⟩ := hkey c hlc
            clear hkey
            cases f1 with
            | true =>
              have HK : Hid (k = 0 ∧ c = 0) := by
                rcases hfp1.out with ⟨_, h1, h2⟩ | ⟨h1, _⟩
                · exact ⟨h1, h2⟩
                · cases h1
              clear hfp1
              go_wp2
              go_round
              case rel => exact ⟨c + 1, false, _, by omega, by go_num, rfl, rfl, .inr ⟨rfl, (prevK_succ L Z k c).symm⟩, rises_succ hR1.out (.inl HK.out)⟩
              case measure => simp [intOf]; omega
            | false =>
              have HK : Hid (p1 = prevK L Z k c) := by
                rcases hfp1.out with ⟨h1, _⟩ | ⟨_, h1⟩
                · cases h1
                · exact h1
              clear hfp1
              go_wp2
              · go_ret
                exact Exists.intro false ⟨rfl, (fun h => by cases h), rfl⟩
              · go_round
                case rel => exact ⟨c + 1, false, _, by omega, by go_num, rfl, rfl, .inr ⟨rfl, (prevK_succ L Z k c).symm⟩, rises_succ hR1.out (.inr (by rw [← HK.out]; omega))⟩
                case measure => simp [intOf]; omega
          · have HC : Hid (c = L k) := by show c = L k; omega
            clear hkey
            go_wp2
            go_round
            case rel =>
              refine ⟨k + 1, f1, p1, by omega, by go_num, rfl, rfl, ?_, hR.succ hpos (by rw [← HC.out]; exact hR1.out)⟩
              rcases hfp1.out with ⟨_, _, h2⟩ | ⟨h1, h2⟩
              · have := HC.out; omega
              · exact .inr ⟨h1, by rw [h2, HC.out, prevK_next L Z k hpos]⟩
            case measure => simp [intOf]; omega
    · have HC : Hid (k = len) := by show k = len; omega
      go_wp2
      go_ret
      exact Exists.intro true ⟨rfl, (fun _ => by rw [← HC.out]; exact hR), rfl⟩

end
end Go.Proofs.Qxb6613111a
