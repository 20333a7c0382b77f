import Derived.Test.YbulkckimAddRev
namespace Go.Proofs.Ybulkckim
open Go.RowKit

theorem nodeAt_of {B m₀ : Nat} {W : World} {N k T mp fm E S : Nat} {R : List Nat} {L : Nat} {ca : Array Value} {ov av iv pv : Value} {V U : Nat → Value} {Lt : Nat → List Nat} {M : Nat → Nat} (h : Nd B W N T mp fm R L ca ov av iv pv) (hT : TabAt m₀ W T E S V U k Lt M) (ho : ∀ j, j < 8 → k ∉ Lt j) :
    NodeAt W N k (flat Lt 8) R :=
  ⟨⟨ca, h.node⟩, by simp [World.cell?, h.node, h.c1], ⟨T, m₀, E, S, V, U, Lt, M, by simp [World.cell?, h.node, h.c0], hT, rfl, ho⟩, B, ov, iv, ⟨by simp [World.cell?, h.node, h.c50], by simp [World.cell?, h.node, h.c52], h.ro, h.ri, h.six⟩⟩

/-- The first n of the six that are selected. -/
def sel (f : Nat → Bool) (n : Nat) : List Nat := (List.range n).filter f
/-- .. those of entry j. -/
def selE (f : Nat → Bool) (n j : Nat) : List Nat := (List.range n).filter fun q => f q && q / 3 == j

theorem sel_succ (f : Nat → Bool) (n : Nat) : sel f (n + 1) = if f n then sel f n ++ [n] else sel f n := by
  unfold sel; rw [List.range_succ, List.filter_append]; cases h : f n <;> simp [h]

theorem selE_succ (f : Nat → Bool) (n j : Nat) : selE f (n + 1) j = if f n && n / 3 == j then selE f n j ++ [n] else selE f n j := by
  unfold selE; rw [List.range_succ, List.filter_append]; cases h : (f n && n / 3 == j) <;> simp [h]

theorem flat_sel (f : Nat → Bool) : flat (selE f 6) 8 = sel f 6 := by
  have e8 : List.range 8 = [0, 1, 2, 3, 4, 5, 6, 7] := rfl
  have e6 : List.range 6 = [0, 1, 2, 3, 4, 5] := rfl
  unfold flat selE sel
  rw [e8, e6]
  cases h0 : f 0 <;> cases h1 : f 1 <;> cases h2 : f 2 <;> cases h3 : f 3 <;> cases h4 : f 4 <;> cases h5 : f 5 <;> simp [h0, h1, h2, h3, h4, h5]

theorem mem_sel (f : Nat → Bool) (n x : Nat) : x ∈ sel f n ↔ x < n ∧ f x = true := by simp [sel]
theorem mem_selE (f : Nat → Bool) (n j x : Nat) : x ∈ selE f n j ↔ x < n ∧ f x = true ∧ x / 3 = j := by simp [selE]
theorem sel_len (f : Nat → Bool) (n : Nat) : (sel f n).length ≤ n := by
  have := List.length_filter_le f (List.range n); simpa [sel] using this
theorem selE_len (f : Nat → Bool) (n j : Nat) : (selE f n j).length ≤ n := by
  have := List.length_filter_le (fun q => f q && q / 3 == j) (List.range n); simpa [selE] using this
end Go.Proofs.Ybulkckim
