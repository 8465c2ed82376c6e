/-
  THE PLAIN LAW, with no Go in sight: how many rules are visited, of a run and of its two parts.
-/
namespace Go.Proofs.Qxb6613445a

/-- m is the first i below n at which D denies, or n. -/
def FirstDeny (D : Nat → Bool) (n m : Nat) : Prop := m ≤ n ∧ (∀ i, i < m → D i = false) ∧ (m < n → D m = true)

/-- c rules of the n are visited: none ahead of the last one denies, and where it is not the run's last, it does. -/
def Visits (D : Nat → Bool) (n c : Nat) : Prop := c ≤ n ∧ (∀ i, i + 1 < c → D i = false) ∧ (c < n → 0 < c ∧ D (c - 1) = true)

theorem Visits.one {D : Nat → Bool} {n a b : Nat} (h : Visits D n a) (k : Visits D n b) : a = b := by
  obtain ⟨h1, h2, h3⟩ := h
  obtain ⟨k1, k2, k3⟩ := k
  rcases Nat.lt_trichotomy a b with hl | hl | hl
  · obtain ⟨p, q⟩ := h3 (by omega)
    rw [k2 (a - 1) (by omega)] at q
    cases q
  · exact hl
  · obtain ⟨p, q⟩ := k3 (by omega)
    rw [h2 (b - 1) (by omega)] at q
    cases q

theorem Visits.deny {D : Nat → Bool} {n a f : Nat} (h : Visits D n a) (k : FirstDeny D n f) : a = if f < n then f + 1 else n := by
  obtain ⟨k1, k2, k3⟩ := k
  refine h.one ?_
  by_cases hf : f < n
  · rw [if_pos hf]
    exact ⟨hf, fun i hi => k2 i (by omega), fun _ => ⟨by omega, by simpa using k3 hf⟩⟩
  · rw [if_neg hf]
    exact ⟨Nat.le_refl _, fun i hi => k2 i (by omega), fun h => by omega⟩

/-- The first part did not run out: its visits are the whole's. -/
theorem Visits.stopped {D : Nat → Bool} {n k a c : Nat} (hk : k ≤ n) (h : Visits D n a) (hc : Visits D k c) (hno : ¬ (c = k ∧ (k = 0 ∨ D (k - 1) = false))) : a = c := by
  obtain ⟨c1, c2, c3⟩ := hc
  refine h.one ⟨by omega, c2, fun _ => ?_⟩
  by_cases e : c < k
  · exact c3 e
  · have e' : c = k := by omega
    subst e'
    have h0 : ¬ (c = 0 ∨ D (c - 1) = false) := fun h => hno ⟨rfl, h⟩
    refine ⟨by omega, ?_⟩
    cases hD : D (c - 1) with
    | true => rfl
    | false => exact absurd (Or.inr hD) h0

/-- The first part ran out: the second's visits follow. -/
theorem Visits.ranOn {D : Nat → Bool} {n k a c : Nat} (hk : k ≤ n) (h : Visits D n a) (hf : Visits D k k) (h0 : k = 0 ∨ D (k - 1) = false) (hb : Visits (fun i => D (k + i)) (n - k) c) : a = k + c := by
  obtain ⟨b1, b2, b3⟩ := hb
  refine h.one ⟨by omega, fun i hi => ?_, fun hlt => ?_⟩
  · by_cases e : i < k
    · by_cases e2 : i + 1 < k
      · exact hf.2.1 i e2
      · rcases h0 with h0 | h0
        · omega
        · rw [show i = k - 1 by omega]; exact h0
    · have := b2 (i - k) (by omega)
      simp only at this
      rwa [show k + (i - k) = i by omega] at this
  · obtain ⟨p, q⟩ := b3 (by omega)
    simp only at q
    refine ⟨by omega, ?_⟩
    rwa [show k + (c - 1) = k + c - 1 by omega] at q

end Go.Proofs.Qxb6613445a
