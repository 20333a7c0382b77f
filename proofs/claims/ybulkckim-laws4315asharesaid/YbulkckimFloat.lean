import Derived.Laws.FloatBits
import Derived.Laws.FloatArith
import Derived.Laws.Cover2
namespace Go.Proofs.Ybulkckim
open Ieee

/-! ### THE PLAIN LAW ON FLOATS: the quotient of two ints, the second not nought, is no NaN: it equals itself. -/

theorem rung_word (neg : Bool) {r : Nat} (h : r < double.signWeight) : double.word neg r % double.signWeight = r := by
  unfold Format.word
  cases neg
  · simp [Nat.mod_eq_of_lt h]
  · simp [Nat.add_mod_left, Nat.mod_eq_of_lt h]

/-- What is written of a number is no NaN. -/
theorem read_le (neg : Bool) {r : Nat} (h : r ≤ double.infRung) : (double.read (double.word neg r)).order (double.read (double.word neg r)) = some .eq := by
  have hs : r < double.signWeight := Nat.lt_of_le_of_lt h (double.infRung_lt)
  have e := rung_word neg hs
  unfold Format.read
  simp only [e]
  split
  · simp [Datum.order]
  · split
    · simp [Datum.order]
    · have : r = double.infRung := by omega
      rw [if_pos this]
      simp [Datum.order]

theorem order_write (s : Bool) (m : Nat) (p : Int) : double.order (double.write (.number s m p)) (double.write (.number s m p)) = some .eq := by
  unfold Format.order Format.write Format.nearest
  simp only
  split
  · exact read_le s (Nat.zero_le _)
  · exact read_le s (Nat.min_le_right _ _)

theorem order_inf (s : Bool) : double.order (double.write (.infinity s)) (double.write (.infinity s)) = some .eq := by
  unfold Format.order Format.write
  exact read_le s (Nat.le_refl _)

theorem cut_le (neg : Bool) (n drop k : Nat) (hd : drop ≤ n.log2 + 2) (hn : n < 2 ^ (k + drop)) : Toward.even.cut neg n drop ≤ 2 ^ k := by
  unfold Toward.cut
  simp only [Nat.min_eq_left hd, Nat.one_shiftLeft]
  have : n / 2 ^ drop < 2 ^ k := by
    rw [Nat.div_lt_iff_lt_mul (Nat.two_pow_pos _), ← Nat.pow_add]
    exact hn
  have hb : ∀ b : Bool, b.toNat ≤ 1 := fun b => by cases b <;> simp
  have := hb (decide (2 ^ drop < 2 * (n % 2 ^ drop)) || (2 ^ drop == 2 * (n % 2 ^ drop) && n / 2 ^ drop % 2 == 1))
  omega

theorem least : double.leastPlace = -1074 := by decide
theorem bin : double.binade = 2 ^ 52 := by decide
theorem infr : double.infRung = 2047 * 2 ^ 52 := by decide
theorem frac : double.fractionBits = 52 := rfl

/-- The rung of a whole number from 1 to 2^63: a normal number's. -/
theorem nearest_int (s : Bool) (mag : Nat) (h1 : 1 ≤ mag) (h2 : mag ≤ 2 ^ 63) : ∃ r, double.nearest s mag 0 = double.word s r ∧ double.binade ≤ r ∧ r < double.infRung := by
  have hL : mag.log2 ≤ 63 := by
    have h := Nat.log2_self_le (n := mag) (by omega)
    rcases Nat.lt_or_ge 63 mag.log2 with h3 | h3
    · have : 2 ^ 64 ≤ 2 ^ mag.log2 := Nat.pow_le_pow_right (by decide) h3
      have h64 : (2 : Nat) ^ 64 = 18446744073709551616 := by decide
      have h63 : (2 : Nat) ^ 63 = 9223372036854775808 := by decide
      omega
    · exact h3
  have hlt : mag < 2 ^ (mag.log2 + 1) := Nat.lt_log2_self
  generalize hl : mag.log2 = L at hL hlt
  have hlast : max ((0 : Int) + (L : Int) - ((52 : Nat) : Int)) (-1074) = (L : Int) - 52 := by omega
  unfold Format.nearest
  rw [if_neg (by omega)]
  simp only [hl, frac, least, hlast]
  have hk : Toward.even.cut s (mag <<< ((0 : Int) - ((L : Int) - 52)).toNat) (((L : Int) - 52) - 0).toNat ≤ 2 ^ 53 := by
    rcases Nat.lt_or_ge L 52 with h3 | h3
    · have e1 : ((0 : Int) - ((L : Int) - 52)).toNat = 52 - L := by omega
      have e2 : (((L : Int) - 52) - 0).toNat = 0 := by omega
      rw [e1, e2]
      refine cut_le s _ 0 53 (Nat.zero_le _) ?_
      rw [Nat.shiftLeft_eq]
      have : mag * 2 ^ (52 - L) < 2 ^ (L + 1) * 2 ^ (52 - L) := Nat.mul_lt_mul_of_pos_right hlt (Nat.two_pow_pos _)
      rw [← Nat.pow_add] at this
      have e3 : L + 1 + (52 - L) = 53 + 0 := by omega
      rwa [e3] at this
    · have e1 : ((0 : Int) - ((L : Int) - 52)).toNat = 0 := by omega
      have e2 : (((L : Int) - 52) - 0).toNat = L - 52 := by omega
      rw [e1, e2, Nat.shiftLeft_zero]
      refine cut_le s _ (L - 52) 53 (by rw [hl]; omega) ?_
      have e3 : L + 1 = 53 + (L - 52) := by omega
      rwa [e3] at hlt
  generalize Toward.even.cut s (mag <<< ((0 : Int) - ((L : Int) - 52)).toNat) (((L : Int) - 52) - 0).toNat = kept at hk
  have e4 : ((L : Int) - 52 - -1074).toNat = L + 1022 := by omega
  rw [e4, bin, infr]
  refine ⟨_, rfl, ?_, ?_⟩
  · have : (L + 1022) * 2 ^ 52 ≥ 1022 * 2 ^ 52 := Nat.mul_le_mul_right _ (by omega)
    have p52 : (2 : Nat) ^ 52 = 4503599627370496 := by decide
    rw [p52] at this ⊢
    omega
  · have : (L + 1022) * 2 ^ 52 ≤ 1085 * 2 ^ 52 := Nat.mul_le_mul_right _ (by omega)
    have p52 : (2 : Nat) ^ 52 = 4503599627370496 := by decide
    have p53 : (2 : Nat) ^ 53 = 9007199254740992 := by decide
    rw [p53] at hk
    rw [p52] at this ⊢
    omega

/-- float64(n), read again: a number; its digits are nought just where n is. -/
theorem read_int (n : Int) (h : n.natAbs ≤ 2 ^ 63) : ∃ s m i, double.read (floatOfInt .f64 n) = .number s m i ∧ (n ≠ 0 → m ≠ 0) := by
  show ∃ s m i, double.read (double.nearest (decide (n < 0)) n.natAbs 0) = .number s m i ∧ (n ≠ 0 → m ≠ 0)
  by_cases h0 : n = 0
  · subst h0
    exact ⟨_, _, _, rfl, fun h => absurd rfl h⟩
  · obtain ⟨r, e, h1, h2⟩ := nearest_int (decide (n < 0)) n.natAbs (by omega) h
    rw [e]
    have e2 := rung_word (decide (n < 0)) (Nat.lt_trans h2 (double.infRung_lt))
    unfold Format.read
    simp only [e2]
    rw [if_neg (by omega), if_pos h2]
    exact ⟨_, _, _, rfl, fun _ => by rw [bin]; have p52 : (2 : Nat) ^ 52 = 4503599627370496 := by decide
                                     omega⟩

/-- THE QUOTIENT: it is there, and equals itself. -/
theorem quo_self (a b : Int) (ha : a.natAbs ≤ 2 ^ 63) (hb : b.natAbs ≤ 2 ^ 63) (h0 : b ≠ 0) :
    ∃ q, double.div (floatOfInt .f64 a) (floatOfInt .f64 b) = some q ∧ double.order q q = some .eq := by
  obtain ⟨s, m, i, e1, _⟩ := read_int a ha
  obtain ⟨t, n, j, e2, hn⟩ := read_int b hb
  unfold Format.div
  rw [e1, e2]
  simp only [Datum.quotient, if_neg (hn h0), Option.map_some]
  exact ⟨_, rfl, order_write _ _ _⟩
end Go.Proofs.Ybulkckim
