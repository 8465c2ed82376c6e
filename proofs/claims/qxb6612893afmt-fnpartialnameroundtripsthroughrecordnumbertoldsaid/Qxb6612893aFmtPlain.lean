/-
  THE PLAIN LAW, with no Go in sight: a number padded with zeros to a width reads back as itself.
-/
import Derived.Lib.AtoiAllCases
import Derived.Lib.Strings
import Derived.Stop.FmtTextWidths
namespace Go.Proofs.Qxb6612893aFmt
open Go.Lib Go.Extern

theorem dig_toNat (d : Nat) (h : d < 10) : (UInt8.ofNat (48 + d)).toNat = 48 + d := by
  rw [UInt8.toNat_ofNat']
  omega

theorem parse_digit (acc d : Nat) (r : List UInt8) (hd : d < 10) (h : acc * 10 + d < 18446744073709551616) : parseUint10 acc (UInt8.ofNat (48 + d) :: r) = parseUint10 (acc * 10 + d) r := by
  rw [parseUint10, dig_toNat d hd, if_pos (by omega), if_neg (by omega), if_neg (by omega), show acc * 10 + (48 + d - 48) = acc * 10 + d by omega]

/-- The digits of u, read from the left, come to u. -/
theorem parse_digits : ∀ (fuel u : Nat) (r : List UInt8), u ≤ fuel → u < 18446744073709551616 → parseUint10 0 (decDigits u ++ r) = parseUint10 u r
  | 0, u, r, hf, hu => by
    have e : u = 0 := by omega
    subst e
    rw [decDigits, dif_pos (by omega)]
    simpa using parse_digit 0 0 r (by omega) (by omega)
  | fuel + 1, u, r, hf, hu => by
    by_cases h : u < 10
    · rw [decDigits, dif_pos h]
      simpa using parse_digit 0 u r h (by omega)
    · rw [decDigits, dif_neg h, List.append_assoc, parse_digits fuel (u / 10) _ (by omega) (by omega)]
      have e : u / 10 * 10 + u % 10 = u := by omega
      have hp := parse_digit (u / 10) (u % 10) r (by omega) (by omega)
      rw [e] at hp
      exact hp

theorem parse_zeros : ∀ (k : Nat) (l : List UInt8), parseUint10 0 (List.replicate k 48 ++ l) = parseUint10 0 l
  | 0, l => by simp
  | k + 1, l => by
    rw [List.replicate_succ, List.cons_append]
    have hp := parse_digit 0 0 (List.replicate k 48 ++ l) (by omega) (by omega)
    exact hp.trans (parse_zeros k l)

theorem parse_padded (k u : Nat) (hu : u < 18446744073709551616) : parseUint10 0 (List.replicate k 48 ++ decDigits u) = .ok u := by
  rw [parse_zeros]
  have h := parse_digits u u [] (Nat.le_refl _) hu
  rw [List.append_nil] at h
  rw [h, parseUint10]

theorem decDigits_ne (u : Nat) : decDigits u ≠ [] := by
  rw [decDigits]
  split
  · simp
  · simp

theorem parseMag_padded (k u : Nat) (hu : u < 18446744073709551616) : parseMag (List.replicate k 48 ++ decDigits u) = .ok u := by
  unfold parseMag
  rw [if_neg (by simp [decDigits_ne]), parse_padded k u hu]

/-- ATOI READS A PADDED NUMBER BACK. -/
theorem atoi_zeros (N : Nat) (n : Int) (h1 : -9223372036854775808 ≤ n) (h2 : n ≤ 9223372036854775807) : atoiAll (FmtText.zeros N n) = .ok n := by
  unfold FmtText.zeros
  by_cases hn : n < 0
  · rw [if_pos hn, atoiAll_minus, parseMag_padded _ _ (by omega)]
    simp only [signed]
    rw [if_neg (by omega)]
    congr 1
    omega
  · rw [if_neg hn]
    have hp := parse_padded (N - (decDigits n.toNat).length) n.toNat (by omega)
    have hm := parseMag_padded (N - (decDigits n.toNat).length) n.toNat (by omega)
    cases hl : List.replicate (N - (decDigits n.toNat).length) 48 ++ decDigits n.toNat with
    | nil => simp [decDigits_ne] at hl
    | cons c r =>
      rw [hl] at hp hm
      have hc : 48 ≤ c.toNat ∧ c.toNat ≤ 57 := by
        rw [parseUint10] at hp
        split at hp
        · assumption
        · cases hp
      rw [atoiAll_plain c r (by omega) (by omega), hm]
      simp only [signless]
      rw [if_neg (by omega)]
      congr 1
      omega

/-- The bytes of 'record n': the number in eight digits at least, then '.record'. -/
def recEnd : List UInt8 := [46, 114, 101, 99, 111, 114, 100]
def recB (n : Int) : List UInt8 := FmtText.zeros 8 n ++ recEnd

theorem recB_has (n : Int) : hasSuffix (recB n) recEnd = true := by
  unfold hasSuffix recB
  rw [List.isSuffixOf_iff_suffix]
  exact ⟨_, rfl⟩

theorem recB_trim (n : Int) : trimSuffix (recB n) recEnd = FmtText.zeros 8 n := by
  unfold trimSuffix
  rw [if_pos (recB_has n)]
  unfold recB
  rw [List.length_append, Nat.add_sub_cancel, List.take_left]
end Go.Proofs.Qxb6612893aFmt
