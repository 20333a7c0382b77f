import Derived.Lib.ItoaNum
import Derived.Lib.Join
namespace Go.Proofs.YbulkckqoDoor
open Go Go.Lib

/-! ### PLAIN: the decimal digits as zzs4330aitoa lays them, from the last to the first -/

/-- The digits still to come: none of 0. -/
def D (u : Nat) : List UInt8 := if u = 0 then [] else decDigits u

theorem D_step {u : Nat} (h : u ≠ 0) : D u = D (u / 10) ++ [UInt8.ofNat (48 + u % 10)] := by
  unfold D
  rw [if_neg h]
  by_cases h10 : u < 10
  · rw [decDigits, dif_pos h10]
    have e1 : u / 10 = 0 := by omega
    have e2 : u % 10 = u := by omega
    simp [e1, e2]
  · rw [decDigits, dif_neg h10, if_neg (by omega)]

theorem decDigits_len : ∀ (k u : Nat), u < 10 ^ (k + 1) → (decDigits u).length ≤ k + 1
  | 0, u, h => by rw [decDigits, dif_pos (by simpa using h)]; simp
  | k + 1, u, h => by
    by_cases h10 : u < 10
    · rw [decDigits, dif_pos h10]; simp
    · rw [decDigits, dif_neg h10]
      have := decDigits_len k (u / 10) (by rw [Nat.div_lt_iff_lt_mul (by decide)]; rwa [Nat.pow_succ] at h)
      simp; omega

theorem decDigits_len64 {u : Nat} (h : u < 18446744073709551616) : (decDigits u).length ≤ 20 :=
  decDigits_len 19 u (Nat.lt_of_lt_of_le h (by decide))

/-- The text of one pair, of all pairs, as the law builds it. -/
def pair (s p : Int) : List UInt8 := itoa s ++ [58] ++ itoa p
def built (S Q : Nat → Int) : Nat → List UInt8
  | 0 => []
  | k + 1 => built S Q k ++ ((if k = 0 then [] else [44]) ++ pair (S k) (Q k))

theorem built_join (S Q : Nat → Int) : ∀ k, built S Q k = join ((List.range k).map fun i => pair (S i) (Q i)) [44]
  | 0 => rfl
  | k + 1 => by
    rw [built, built_join S Q k, List.range_succ, List.map_append]
    cases k with
    | zero => simp [join, List.intercalate]
    | succ k =>
      have hne : (List.range (k + 1)).map (fun i => pair (S i) (Q i)) ≠ [] := by simp
      generalize (List.range (k + 1)).map (fun i => pair (S i) (Q i)) = l at hne
      simp only [Nat.add_eq_zero_iff, Nat.one_ne_zero, and_false, if_false, List.map_cons, List.map_nil]
      cases l with
      | nil => exact absurd rfl hne
      | cons x r =>
        rw [join_cons, show x :: r ++ [pair (S (k + 1)) (Q (k + 1))] = x :: (r ++ [pair (S (k + 1)) (Q (k + 1))]) from rfl, join_cons]
        simp [joinTail]

theorem itoa_len {n : Int} (h0 : -9223372036854775808 ≤ n) (h1 : n ≤ 9223372036854775807) : (itoa n).length ≤ 21 := by
  unfold itoa
  split
  · have := decDigits_len64 (u := n.natAbs) (by omega)
    simp; omega
  · have := decDigits_len64 (u := n.toNat) (by omega)
    omega

theorem built_len {S Q : Nat → Int} (hS : ∀ i, -9223372036854775808 ≤ S i ∧ S i ≤ 9223372036854775807) (hQ : ∀ i, -9223372036854775808 ≤ Q i ∧ Q i ≤ 9223372036854775807) : ∀ k, (built S Q k).length ≤ 44 * k
  | 0 => by simp [built]
  | k + 1 => by
    have h1 := built_len hS hQ k
    have h2 := itoa_len (hS k).1 (hS k).2
    have h3 := itoa_len (hQ k).1 (hQ k).2
    rw [built]
    simp only [pair, List.length_append, List.length_cons, List.length_nil]
    split <;> simp <;> omega
end Go.Proofs.YbulkckqoDoor
