import Derived.Test.YbulkckoyModel
namespace Go.Proofs.Ybulkckoy
open Go.RowKit

set_option maxRecDepth 100000 in
theorem picked_big (ao : Option Addr) (n c : Nat) (p : Int) (w : World) (hn : 1024 < n) (hnm : n ≤ maxLen) :
    Calls Yba.prog 4 #[.slice ao n c, .int .u8 p] w fun e w' => e = .returned (.bool true) ∧ Below w.heap.size w w' := by
  unfold maxLen at hnm
  have hn' : (1024 : Int) < (n : Int) := by omega
  go_enter Yba.func4, Yba.ntmps4
  go_wp2
  go_ret
  exact ⟨rfl, Below.refl _ _⟩

set_option maxRecDepth 100000 in
theorem picked_zero (ao : Option Addr) (c : Nat) (p : Int) (w : World) :
    Calls Yba.prog 4 #[.slice ao 0 c, .int .u8 p] w fun e w' => e = .returned (.bool true) ∧ Below w.heap.size w w' := by
  go_enter Yba.func4, Yba.ntmps4
  go_wp2
  go_ret
  exact ⟨rfl, Below.refl _ _⟩

/-- At a machine that stands at index j: place is between 1 and j + 1. -/
theorem Placed.picked {A : Nat → ByteArray} {n j : Nat} {x : Int} (hj : j < n) (h : Placed A n (A j) x) :
    ∃ t : Nat, x = (t : Int) + 1 ∧ t ≤ j ∧ t < n ∧ ((A t).toList == (A j).toList) = true ∧ ∀ i, i < t → ((A i).toList == (A j).toList) = false := by
  rcases h with ⟨_, h2⟩ | ⟨t, h1, h2, h3, h4⟩
  · have := h2 j hj; simp at this
  · refine ⟨t, h1, ?_, h2, h3, h4⟩
    rcases Nat.lt_or_ge j t with h | h
    · have := h4 j h; simp at this
    · exact h

set_option maxRecDepth 100000 in
set_option maxHeartbeats 1600000 in
theorem picked_pos (a : Addr) (n c : Nat) (p : Nat) (w : World) (A : Nat → ByteArray) (hn : n ≤ 1024) (hn0 : 0 < n) (hp : p ≤ 255)
    (hA : ∀ i, i < n → w.cell? (a.add i) = some (.string (A i))) :
    Calls Yba.prog 4 #[.slice (some a) n c, .int .u8 (p : Int)] w fun e w' => e = .returned (.bool true) ∧ Below w.heap.size w w' := by
  have hn0' : (0 : Int) < (n : Int) := by omega
  have hn1 : ((n : Int) == 0) = false := by simp; omega
  have hm0 : 0 ≤ (p : Int) % (n : Int) := Int.emod_nonneg _ (by omega)
  have hm1 : (p : Int) % (n : Int) < (n : Int) := Int.emod_lt_of_pos _ hn0'
  have hjn := Nat.mod_lt p hn0
  have c0 := hA (p % n) hjn
  go_enter Yba.func4, Yba.ntmps4
  go_wp2_with fail
  refine (build a n c w A hn hA).mono ?_
  rintro e w1 ⟨rfl, hS, hb1⟩
  go_wp2_with fail
  have hsz3 : w.heap.size + 2 < w1.heap.size := World.block_lt_of_cell? w1 ⟨w.heap.size + 2, 0, none⟩ hS.s0
  refine (place _ _ _ n (A (p % n)) w1 A hn hS (by omega)).mono ?_
  rintro e w2 ⟨⟨x, rfl, hP⟩, hb2⟩
  have hB := hb1.trans (hb2.mono (show w.heap.size ≤ w1.heap.size by omega))
  have hA2 : ∀ i, i < n → w2.cell? (a.add i) = some (.string (A i)) := fun i hi => (hB.cell (p := a.add i) (World.block_lt_of_cell? w _ (hA i hi))).trans (hA i hi)
  obtain ⟨t, rfl, htj, htn, hte, htl⟩ := hP.picked hjn
  have z1 : Hid _ := htl
  have z2 : Hid _ := hA2
  have d0 := hA2 t htn
  have htj' : (t : Int) ≤ (p : Int) % (n : Int) := by omega
  have htn' : (t : Int) < (n : Int) := by omega
  clear hA hS hP hA2 hb1 hb2 hsz3 htl
  go_wp2_with fail
  go_loopg [9] t (fun g i wx => ∃ k : Nat, g + k = t ∧ i = .int .i64 (k : Int) ∧ wx = w2)
  case atStart => exact ⟨0, rfl, rfl, rfl⟩
  case round =>
    obtain ⟨k, hk, rfl, rfl⟩ := hrel
    by_cases hlt : k < t
    · have hlt' : (k : Int) < (t : Int) := by omega
      have e0 := z2.out k (by omega)
      have e1 := z1.out k hlt
      have hkn : (k : Int) < (n : Int) := by omega
      go_wp2_with fail
      go_roundg (gk - 1)
      case measure => omega
      case rel => exact ⟨k + 1, by omega, by go_num, rfl⟩
    · have hlt' : ¬ (k : Int) < (t : Int) := by omega
      go_wp2_with fail
      go_ret
      exact ⟨rfl, hB⟩
end Go.Proofs.Ybulkckoy
