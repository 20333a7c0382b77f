import Derived.Test.YbulkckoyBuild
namespace Go.Proofs.Ybulkckoy
open Go.RowKit

/-- What the law's own scan from the end has found, down to index g. -/
def From (A : Nat → ByteArray) (n : Nat) (m : ByteArray) (g : Nat) (x : Int) : Prop :=
  (x = 0 ∧ ∀ i, g ≤ i → i < n → ((A i).toList == m.toList) = false) ∨ ∃ t : Nat, x = (t : Int) + 1 ∧ g ≤ t ∧ t < n ∧ ((A t).toList == m.toList) = true ∧ ∀ i, g ≤ i → i < t → ((A i).toList == m.toList) = false

theorem From.hit {A : Nat → ByteArray} {n : Nat} {m : ByteArray} {g : Nat} (hg : g < n) (he : ((A g).toList == m.toList) = true) : From A n m g ((g : Int) + 1) :=
  .inr ⟨g, rfl, Nat.le_refl _, hg, he, fun i h1 h2 => by omega⟩

theorem From.miss {A : Nat → ByteArray} {n : Nat} {m : ByteArray} {g : Nat} {x : Int} (h : From A n m (g + 1) x) (he : ((A g).toList == m.toList) = false) : From A n m g x := by
  have key : ∀ (P : Nat → Prop), (∀ i, g + 1 ≤ i → P i → ((A i).toList == m.toList) = false) → ∀ i, g ≤ i → P i → ((A i).toList == m.toList) = false := by
    intro P hP i h1 h2
    rcases Nat.lt_or_ge g i with h3 | h3
    · exact hP i h3 h2
    · obtain rfl : i = g := by omega
      exact he
  rcases h with ⟨h1, h2⟩ | ⟨t, h1, h2, h3, h4, h5⟩
  · exact .inl ⟨h1, key _ h2⟩
  · exact .inr ⟨t, h1, by omega, h3, h4, key _ h5⟩

theorem Placed.same {A : Nat → ByteArray} {n : Nat} {m : ByteArray} {x y : Int} (h : Placed A n m x) (k : From A n m 0 y) : x = y := by
  rcases h with ⟨h1, h2⟩ | ⟨t, h1, h2, h3, h4⟩ <;> rcases k with ⟨k1, k2⟩ | ⟨u, k1, _, k2, k3, k4⟩
  · omega
  · have := h2 u k2; rw [k3] at this; cases this
  · have := k2 t (Nat.zero_le _) h2; rw [h3] at this; cases this
  · rcases Nat.lt_trichotomy t u with h | h | h
    · have := k4 t (Nat.zero_le _) h; rw [h3] at this; cases this
    · omega
    · have := h4 u h; rw [k3] at this; cases this

theorem Placed.bound {A : Nat → ByteArray} {n : Nat} {m : ByteArray} {x : Int} (h : Placed A n m x) : 0 ≤ x ∧ x ≤ n := by
  rcases h with ⟨h1, h2⟩ | ⟨t, h1, h2, _, _⟩ <;> omega

set_option maxRecDepth 100000 in
theorem model_big (ao : Option Addr) (n c : Nat) (mc : ByteArray) (p : Int) (up : Bool) (w : World) (hn : 1024 < n) (hnm : n ≤ maxLen) :
    Calls Yba.prog 3 #[.slice ao n c, .string mc, .int .u8 p, .bool up] w fun e w' => e = .returned (.bool true) ∧ Below w.heap.size w w' := by
  unfold maxLen at hnm
  have hn' : (1024 : Int) < (n : Int) := by omega
  go_enter Yba.func3, Yba.ntmps3
  go_wp2
  go_ret
  exact ⟨rfl, Below.refl _ _⟩

set_option maxRecDepth 100000 in
set_option maxHeartbeats 1600000 in
theorem model_pick (a : Addr) (n c : Nat) (mc : ByteArray) (p : Nat) (w : World) (A : Nat → ByteArray) (hn : n ≤ 1024) (hn0 : 0 < n) (hp : p ≤ 255)
    (hA : ∀ i, i < n → w.cell? (a.add i) = some (.string (A i))) :
    Calls Yba.prog 3 #[.slice (some a) n c, .string mc, .int .u8 (p : Int), .bool true] w fun e w' => e = .returned (.bool true) ∧ Below w.heap.size w w' := by
  have hn0' : (0 : Int) < (n : Int) := by omega
  have hm0 : 0 ≤ (p : Int) % (n : Int) := Int.emod_nonneg _ (by omega)
  have hm1 : (p : Int) % (n : Int) < (n : Int) := Int.emod_lt_of_pos _ hn0'
  have c0 := hA (p % n) (Nat.mod_lt _ hn0)
  go_enter Yba.func3, Yba.ntmps3
  go_wp2_with fail
  refine (build a n c w A hn hA).mono ?_
  rintro e w1 ⟨rfl, hS, hb1⟩
  go_wp2_with fail
  have hsz1 : w.heap.size < w1.heap.size := World.block_lt_of_cell? w1 ⟨w.heap.size + 2, 0, none⟩ hS.s0 |> fun h => by simp at h; omega
  have hsz3 : w.heap.size + 2 < w1.heap.size := World.block_lt_of_cell? w1 ⟨w.heap.size + 2, 0, none⟩ hS.s0
  refine (place _ _ _ n (A (p % n)) w1 A hn hS hsz1).mono ?_
  rintro e w2 ⟨⟨x, rfl, hP⟩, hb2⟩
  have hS2 := hS.kept hb2 (show w.heap.size + 2 < _ by omega) (show w.heap.size + 1 < _ by omega) hsz1
  have hB := hb1.trans (hb2.mono (show w.heap.size ≤ w1.heap.size by omega))
  have hA2 : ∀ i, i < n → w2.cell? (a.add i) = some (.string (A i)) := fun i hi => (hB.cell (p := a.add i) (World.block_lt_of_cell? w _ (hA i hi))).trans (hA i hi)
  have z1 : Hid _ := hP
  have z2 : Hid _ := hA2
  have z3 : Hid _ := hS2.row
  have s0 := hS2.s0
  have c6 := hS2.c6
  have hxb := hP.bound
  clear hA hS hS2 hP hA2 hb1 hb2 hsz1 hsz3
  go_wp2_with fail
  go_loopg [11, 12] n (fun g v j wx => ∃ y z : Int, v = .int .i64 y ∧ Hid (z = (g : Int) - 1) ∧ j = .int .i64 z ∧ g ≤ n ∧ From A n (A (p % n)) g y ∧ 0 ≤ y ∧ y ≤ n ∧ wx = w2)
  case atStart => exact ⟨0, _, rfl, rfl, rfl, Nat.le_refl _, .inl ⟨rfl, fun i h1 h2 => by omega⟩, by omega, by omega, rfl⟩
  case round =>
    obtain ⟨y, z, rfl, hz, rfl, hgn, hF, hy0, hyn, rfl⟩ := hrel
    have ZF : Hid _ := hF
    clear hF
    rcases Nat.eq_zero_or_pos gk with hg | hg
    · obtain rfl : z = -1 := by have := hz.out; omega
      have hxy : x = y := Placed.same z1.out (by have := ZF.out; rwa [hg] at this)
      subst hxy
      clear hg hz
      go_wp2_with fail
      go_loopg [13] n (fun g j wx => ∃ q t : Nat, g + t = n ∧ j = .int .i64 (t : Int) ∧ wx = wr.drewN q)
      case atStart => exact ⟨0, 0, rfl, rfl, rfl⟩
      case round =>
        obtain ⟨q, t, ht, rfl, rfl⟩ := hrel
        by_cases hlt : t < n
        · have hlt' : (t : Int) < (n : Int) := by omega
          have d0 := z2.out t hlt
          have d1 := (z3.out t hlt).1
          go_wp2_with fail
          go_quiet (fail)
          go_wp2_with fail
          go_roundg (gk - 1)
          case measure => omega
          case rel => exact ⟨_, t + 1, by omega, by go_num, rfl⟩
        · have hlt' : ¬ (t : Int) < (n : Int) := by omega
          go_wp2_with fail
          go_ret
          exact ⟨rfl, below_drewN hB _⟩
    · obtain ⟨t, ht⟩ : ∃ t, gk = t + 1 := ⟨gk - 1, by omega⟩
      have HT : Hid (gk = t + 1) := ht
      obtain rfl : z = (t : Int) := by have := hz.out; omega
      have htn : t < n := by omega
      have htn' : (t : Int) < (n : Int) := by omega
      have d0 := z2.out t htn
      clear hz ht hg hgn
      rcases Bool.eq_false_or_eq_true ((A t).toList == (A (p % n)).toList) with he | he
      · go_wp2_with fail
        go_roundg t
        case measure => have := HT.out; omega
        case rel => exact ⟨(t : Int) + 1, (t : Int) - 1, rfl, rfl, rfl, by omega, From.hit htn he, by omega, by omega, rfl⟩
      · go_wp2_with fail
        go_roundg t
        case measure => have := HT.out; omega
        case rel => exact ⟨y, (t : Int) - 1, rfl, rfl, rfl, by omega, From.miss (by have := ZF.out; rwa [HT.out] at this) he, by omega, by omega, rfl⟩

set_option maxRecDepth 100000 in
set_option maxHeartbeats 1600000 in
theorem model_plain (a : Addr) (n c : Nat) (mc : ByteArray) (p : Int) (w : World) (A : Nat → ByteArray) (hn : n ≤ 1024)
    (hA : ∀ i, i < n → w.cell? (a.add i) = some (.string (A i))) :
    Calls Yba.prog 3 #[.slice (some a) n c, .string mc, .int .u8 p, .bool false] w fun e w' => e = .returned (.bool true) ∧ Below w.heap.size w w' := by
  go_enter Yba.func3, Yba.ntmps3
  go_wp2_with fail
  refine (build a n c w A hn hA).mono ?_
  rintro e w1 ⟨rfl, hS, hb1⟩
  go_wp2_with fail
  have hsz1 : w.heap.size < w1.heap.size := World.block_lt_of_cell? w1 ⟨w.heap.size + 2, 0, none⟩ hS.s0 |> fun h => by simp at h; omega
  have hsz3 : w.heap.size + 2 < w1.heap.size := World.block_lt_of_cell? w1 ⟨w.heap.size + 2, 0, none⟩ hS.s0
  refine (place _ _ _ n mc w1 A hn hS hsz1).mono ?_
  rintro e w2 ⟨⟨x, rfl, hP⟩, hb2⟩
  have hS2 := hS.kept hb2 (show w.heap.size + 2 < _ by omega) (show w.heap.size + 1 < _ by omega) hsz1
  have hB := hb1.trans (hb2.mono (show w.heap.size ≤ w1.heap.size by omega))
  have hA2 : ∀ i, i < n → w2.cell? (a.add i) = some (.string (A i)) := fun i hi => (hB.cell (p := a.add i) (World.block_lt_of_cell? w _ (hA i hi))).trans (hA i hi)
  have z1 : Hid _ := hP
  have z2 : Hid _ := hA2
  have z3 : Hid _ := hS2.row
  have s0 := hS2.s0
  have c6 := hS2.c6
  have hxb := hP.bound
  clear hA hS hS2 hP hA2 hb1 hb2 hsz1 hsz3
  go_wp2_with fail
  go_loopg [11, 12] n (fun g v j wx => ∃ y z : Int, v = .int .i64 y ∧ Hid (z = (g : Int) - 1) ∧ j = .int .i64 z ∧ g ≤ n ∧ From A n mc g y ∧ 0 ≤ y ∧ y ≤ n ∧ wx = w2)
  case atStart => exact ⟨0, _, rfl, rfl, rfl, Nat.le_refl _, .inl ⟨rfl, fun i h1 h2 => by omega⟩, by omega, by omega, rfl⟩
  case round =>
    obtain ⟨y, z, rfl, hz, rfl, hgn, hF, hy0, hyn, rfl⟩ := hrel
    have ZF : Hid _ := hF
    clear hF
    rcases Nat.eq_zero_or_pos gk with hg | hg
    · obtain rfl : z = -1 := by have := hz.out; omega
      have hxy : x = y := Placed.same z1.out (by have := ZF.out; rwa [hg] at this)
      subst hxy
      clear hg hz
      go_wp2_with fail
      go_loopg [13] n (fun g j wx => ∃ q t : Nat, g + t = n ∧ j = .int .i64 (t : Int) ∧ wx = wr.drewN q)
      case atStart => exact ⟨0, 0, rfl, rfl, rfl⟩
      case round =>
        obtain ⟨q, t, ht, rfl, rfl⟩ := hrel
        by_cases hlt : t < n
        · have hlt' : (t : Int) < (n : Int) := by omega
          have d0 := z2.out t hlt
          have d1 := (z3.out t hlt).1
          go_wp2_with fail
          go_quiet (fail)
          go_wp2_with fail
          go_roundg (gk - 1)
          case measure => omega
          case rel => exact ⟨_, t + 1, by omega, by go_num, rfl⟩
        · have hlt' : ¬ (t : Int) < (n : Int) := by omega
          go_wp2_with fail
          go_ret
          exact ⟨rfl, below_drewN hB _⟩
    · obtain ⟨t, ht⟩ : ∃ t, gk = t + 1 := ⟨gk - 1, by omega⟩
      have HT : Hid (gk = t + 1) := ht
      obtain rfl : z = (t : Int) := by have := hz.out; omega
      have htn : t < n := by omega
      have htn' : (t : Int) < (n : Int) := by omega
      have d0 := z2.out t htn
      clear hz ht hg hgn
      rcases Bool.eq_false_or_eq_true ((A t).toList == mc.toList) with he | he
      · go_wp2_with fail
        go_roundg t
        case measure => have := HT.out; omega
        case rel => exact ⟨(t : Int) + 1, (t : Int) - 1, rfl, rfl, rfl, by omega, From.hit htn he, by omega, by omega, rfl⟩
      · go_wp2_with fail
        go_roundg t
        case measure => have := HT.out; omega
        case rel => exact ⟨y, (t : Int) - 1, rfl, rfl, rfl, by omega, From.miss (by have := ZF.out; rwa [HT.out] at this) he, by omega, by omega, rfl⟩

end Go.Proofs.Ybulkckoy
