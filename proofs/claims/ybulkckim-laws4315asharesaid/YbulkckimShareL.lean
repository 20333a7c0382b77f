import Derived.Test.YbulkckimArr
namespace Go.Proofs.Ybulkckim
open Go.RowKit

theorem one_self : (FloatKind.f64.format.order 4607182418800017408 4607182418800017408 == some .eq) = true := by decide +kernel

set_option maxRecDepth 100000 in
set_option maxHeartbeats 800000 in
theorem share0 (ho ir r0 r1 r2 r3 : Int) (w : World) (hz : (wrap64 (ho - ir) == 0) = false) (q : Nat)
    (hd : Ieee.double.div (floatOfInt .f64 0) (floatOfInt .f64 (wrap64 (ho - ir))) = some q) (ho1 : Hid ((FloatKind.f64.format.order q q == some .eq) = true)) :
    Calls Yba.prog 3 #[.int .i64 ho, .int .i64 ir, .agg #[.int .i64 r0, .int .i64 r1, .int .i64 r2, .int .i64 r3], .int .u8 255] w fun e w' => e = .returned (.bool true) ∧ Below w.heap.size w w' := by
  have hn := neq22 r0 r1 r2 r3
  have hq := quo29 hd
  go_enter Yba.func3, Yba.ntmps3
  go_wp2_with fail
  refine (repaired0 (w.heap.size + 1) ho ir r0 r1 r2 r3 _ (by exact ⟨by simp, by simp, by simp, by simp, by simp, by simp⟩) hz q hd).mono ?_
  rintro e w' ⟨rfl, n, rfl⟩
  go_wp2_with fail
  go_quiet (fail)
  go_wp2_with fail
  refine wp_loop_rounds 1 ?_
  rw [rounds_succ]
  go_wp2_with fail
  go_ret
  exact ⟨congrArg (fun b => Ending.returned (Value.bool b)) ho1.out, below_drewN (((Below.refl _ _).alloc (Nat.le_refl _) _).alloc (by simp) _) _⟩

set_option maxRecDepth 100000 in
set_option maxHeartbeats 800000 in
theorem share1 (ho ir r0 r1 r2 r3 : Int) (w : World) (hz : (wrap64 (ho - ir) == 0) = false) (q : Nat)
    (hd : Ieee.double.div (floatOfInt .f64 (wrap64 r0)) (floatOfInt .f64 (wrap64 (ho - ir))) = some q) (ho1 : Hid ((FloatKind.f64.format.order q q == some .eq) = true)) :
    Calls Yba.prog 3 #[.int .i64 ho, .int .i64 ir, .agg #[.int .i64 r0, .int .i64 r1, .int .i64 r2, .int .i64 r3], .int .u8 0] w fun e w' => e = .returned (.bool true) ∧ Below w.heap.size w w' := by
  have hn := neq22 r0 r1 r2 r3
  have hq := quo29 hd
  go_enter Yba.func3, Yba.ntmps3
  go_wp2_with fail
  refine (repaired1 (w.heap.size + 1) ho ir r0 r1 r2 r3 _ (by exact ⟨by simp, by simp, by simp, by simp, by simp, by simp⟩) hz q hd).mono ?_
  rintro e w' ⟨rfl, n, rfl⟩
  go_wp2_with fail
  go_quiet (fail)
  go_wp2_with fail
  refine wp_loop_rounds 2 ?_
  rw [rounds_succ]
  go_wp2_with fail
  rw [rounds_succ]
  go_wp2_with fail
  go_ret
  exact ⟨congrArg (fun b => Ending.returned (Value.bool b)) ho1.out, below_drewN (((Below.refl _ _).alloc (Nat.le_refl _) _).alloc (by simp) _) _⟩

set_option maxRecDepth 100000 in
set_option maxHeartbeats 800000 in
theorem shareMod1 (ho ir r0 r1 r2 r3 : Int) (s : Int) (w : World) (h4 : 4 ≤ s) (h5 : s ≤ 254) (hs : s % 4 = 0) (hz : (wrap64 (ho - ir) == 0) = false) (q : Nat)
    (hd : Ieee.double.div (floatOfInt .f64 (wrap64 r0)) (floatOfInt .f64 (wrap64 (ho - ir))) = some q) (ho1 : Hid ((FloatKind.f64.format.order q q == some .eq) = true)) :
    Calls Yba.prog 3 #[.int .i64 ho, .int .i64 ir, .agg #[.int .i64 r0, .int .i64 r1, .int .i64 r2, .int .i64 r3], .int .u8 s] w fun e w' => e = .returned (.bool true) ∧ Below w.heap.size w w' := by
  have hn := neq22 r0 r1 r2 r3
  have hq := quo29 hd
  go_enter Yba.func3, Yba.ntmps3
  go_wp2_with fail
  refine (repaired1 (w.heap.size + 1) ho ir r0 r1 r2 r3 _ (by exact ⟨by simp, by simp, by simp, by simp, by simp, by simp⟩) hz q hd).mono ?_
  rintro e w' ⟨rfl, n, rfl⟩
  go_wp2_with fail
  go_quiet (fail)
  go_wp2_with fail
  refine wp_loop_rounds 2 ?_
  rw [rounds_succ]
  go_wp2_with fail
  rw [rounds_succ]
  go_wp2_with fail
  go_ret
  exact ⟨congrArg (fun b => Ending.returned (Value.bool b)) ho1.out, below_drewN (((Below.refl _ _).alloc (Nat.le_refl _) _).alloc (by simp) _) _⟩

set_option maxRecDepth 100000 in
set_option maxHeartbeats 800000 in
theorem share2 (ho ir r0 r1 r2 r3 : Int) (w : World) (hz : (wrap64 (ho - ir) == 0) = false) (q : Nat)
    (hd : Ieee.double.div (floatOfInt .f64 (wrap64 (wrap64 r0 + r1))) (floatOfInt .f64 (wrap64 (ho - ir))) = some q) (ho1 : Hid ((FloatKind.f64.format.order q q == some .eq) = true)) :
    Calls Yba.prog 3 #[.int .i64 ho, .int .i64 ir, .agg #[.int .i64 r0, .int .i64 r1, .int .i64 r2, .int .i64 r3], .int .u8 1] w fun e w' => e = .returned (.bool true) ∧ Below w.heap.size w w' := by
  have hn := neq22 r0 r1 r2 r3
  have hq := quo29 hd
  go_enter Yba.func3, Yba.ntmps3
  go_wp2_with fail
  refine (repaired2 (w.heap.size + 1) ho ir r0 r1 r2 r3 _ (by exact ⟨by simp, by simp, by simp, by simp, by simp, by simp⟩) hz q hd).mono ?_
  rintro e w' ⟨rfl, n, rfl⟩
  go_wp2_with fail
  go_quiet (fail)
  go_wp2_with fail
  refine wp_loop_rounds 3 ?_
  rw [rounds_succ]
  go_wp2_with fail
  rw [rounds_succ]
  go_wp2_with fail
  rw [rounds_succ]
  go_wp2_with fail
  go_ret
  exact ⟨congrArg (fun b => Ending.returned (Value.bool b)) ho1.out, below_drewN (((Below.refl _ _).alloc (Nat.le_refl _) _).alloc (by simp) _) _⟩

set_option maxRecDepth 100000 in
set_option maxHeartbeats 800000 in
theorem shareMod2 (ho ir r0 r1 r2 r3 : Int) (s : Int) (w : World) (h4 : 4 ≤ s) (h5 : s ≤ 254) (hs : s % 4 = 1) (hz : (wrap64 (ho - ir) == 0) = false) (q : Nat)
    (hd : Ieee.double.div (floatOfInt .f64 (wrap64 (wrap64 r0 + r1))) (floatOfInt .f64 (wrap64 (ho - ir))) = some q) (ho1 : Hid ((FloatKind.f64.format.order q q == some .eq) = true)) :
    Calls Yba.prog 3 #[.int .i64 ho, .int .i64 ir, .agg #[.int .i64 r0, .int .i64 r1, .int .i64 r2, .int .i64 r3], .int .u8 s] w fun e w' => e = .returned (.bool true) ∧ Below w.heap.size w w' := by
  have hn := neq22 r0 r1 r2 r3
  have hq := quo29 hd
  go_enter Yba.func3, Yba.ntmps3
  go_wp2_with fail
  refine (repaired2 (w.heap.size + 1) ho ir r0 r1 r2 r3 _ (by exact ⟨by simp, by simp, by simp, by simp, by simp, by simp⟩) hz q hd).mono ?_
  rintro e w' ⟨rfl, n, rfl⟩
  go_wp2_with fail
  go_quiet (fail)
  go_wp2_with fail
  refine wp_loop_rounds 3 ?_
  rw [rounds_succ]
  go_wp2_with fail
  rw [rounds_succ]
  go_wp2_with fail
  rw [rounds_succ]
  go_wp2_with fail
  go_ret
  exact ⟨congrArg (fun b => Ending.returned (Value.bool b)) ho1.out, below_drewN (((Below.refl _ _).alloc (Nat.le_refl _) _).alloc (by simp) _) _⟩

set_option maxRecDepth 100000 in
set_option maxHeartbeats 800000 in
theorem share3 (ho ir r0 r1 r2 r3 : Int) (w : World) (hz : (wrap64 (ho - ir) == 0) = false) (q : Nat)
    (hd : Ieee.double.div (floatOfInt .f64 (wrap64 (wrap64 (wrap64 r0 + r1) + r2))) (floatOfInt .f64 (wrap64 (ho - ir))) = some q) (ho1 : Hid ((FloatKind.f64.format.order q q == some .eq) = true)) :
    Calls Yba.prog 3 #[.int .i64 ho, .int .i64 ir, .agg #[.int .i64 r0, .int .i64 r1, .int .i64 r2, .int .i64 r3], .int .u8 2] w fun e w' => e = .returned (.bool true) ∧ Below w.heap.size w w' := by
  have hn := neq22 r0 r1 r2 r3
  have hq := quo29 hd
  go_enter Yba.func3, Yba.ntmps3
  go_wp2_with fail
  refine (repaired3 (w.heap.size + 1) ho ir r0 r1 r2 r3 _ (by exact ⟨by simp, by simp, by simp, by simp, by simp, by simp⟩) hz q hd).mono ?_
  rintro e w' ⟨rfl, n, rfl⟩
  go_wp2_with fail
  go_quiet (fail)
  go_wp2_with fail
  refine wp_loop_rounds 4 ?_
  rw [rounds_succ]
  go_wp2_with fail
  rw [rounds_succ]
  go_wp2_with fail
  rw [rounds_succ]
  go_wp2_with fail
  rw [rounds_succ]
  go_wp2_with fail
  go_ret
  exact ⟨congrArg (fun b => Ending.returned (Value.bool b)) ho1.out, below_drewN (((Below.refl _ _).alloc (Nat.le_refl _) _).alloc (by simp) _) _⟩

set_option maxRecDepth 100000 in
set_option maxHeartbeats 800000 in
theorem shareMod3 (ho ir r0 r1 r2 r3 : Int) (s : Int) (w : World) (h4 : 4 ≤ s) (h5 : s ≤ 254) (hs : s % 4 = 2) (hz : (wrap64 (ho - ir) == 0) = false) (q : Nat)
    (hd : Ieee.double.div (floatOfInt .f64 (wrap64 (wrap64 (wrap64 r0 + r1) + r2))) (floatOfInt .f64 (wrap64 (ho - ir))) = some q) (ho1 : Hid ((FloatKind.f64.format.order q q == some .eq) = true)) :
    Calls Yba.prog 3 #[.int .i64 ho, .int .i64 ir, .agg #[.int .i64 r0, .int .i64 r1, .int .i64 r2, .int .i64 r3], .int .u8 s] w fun e w' => e = .returned (.bool true) ∧ Below w.heap.size w w' := by
  have hn := neq22 r0 r1 r2 r3
  have hq := quo29 hd
  go_enter Yba.func3, Yba.ntmps3
  go_wp2_with fail
  refine (repaired3 (w.heap.size + 1) ho ir r0 r1 r2 r3 _ (by exact ⟨by simp, by simp, by simp, by simp, by simp, by simp⟩) hz q hd).mono ?_
  rintro e w' ⟨rfl, n, rfl⟩
  go_wp2_with fail
  go_quiet (fail)
  go_wp2_with fail
  refine wp_loop_rounds 4 ?_
  rw [rounds_succ]
  go_wp2_with fail
  rw [rounds_succ]
  go_wp2_with fail
  rw [rounds_succ]
  go_wp2_with fail
  rw [rounds_succ]
  go_wp2_with fail
  go_ret
  exact ⟨congrArg (fun b => Ending.returned (Value.bool b)) ho1.out, below_drewN (((Below.refl _ _).alloc (Nat.le_refl _) _).alloc (by simp) _) _⟩

set_option maxRecDepth 100000 in
set_option maxHeartbeats 800000 in
theorem share4 (ho ir r0 r1 r2 r3 : Int) (w : World) (hz : (wrap64 (ho - ir) == 0) = false) (q : Nat)
    (hd : Ieee.double.div (floatOfInt .f64 (wrap64 (wrap64 (wrap64 (wrap64 r0 + r1) + r2) + r3))) (floatOfInt .f64 (wrap64 (ho - ir))) = some q) (ho1 : Hid ((FloatKind.f64.format.order q q == some .eq) = true)) :
    Calls Yba.prog 3 #[.int .i64 ho, .int .i64 ir, .agg #[.int .i64 r0, .int .i64 r1, .int .i64 r2, .int .i64 r3], .int .u8 3] w fun e w' => e = .returned (.bool true) ∧ Below w.heap.size w w' := by
  have hn := neq22 r0 r1 r2 r3
  have hq := quo29 hd
  go_enter Yba.func3, Yba.ntmps3
  go_wp2_with fail
  refine (repaired4 (w.heap.size + 1) ho ir r0 r1 r2 r3 _ (by exact ⟨by simp, by simp, by simp, by simp, by simp, by simp⟩) hz q hd).mono ?_
  rintro e w' ⟨rfl, n, rfl⟩
  go_wp2_with fail
  go_quiet (fail)
  go_wp2_with fail
  refine wp_loop_rounds 5 ?_
  rw [rounds_succ]
  go_wp2_with fail
  rw [rounds_succ]
  go_wp2_with fail
  rw [rounds_succ]
  go_wp2_with fail
  rw [rounds_succ]
  go_wp2_with fail
  rw [rounds_succ]
  go_wp2_with fail
  go_ret
  exact ⟨congrArg (fun b => Ending.returned (Value.bool b)) ho1.out, below_drewN (((Below.refl _ _).alloc (Nat.le_refl _) _).alloc (by simp) _) _⟩

set_option maxRecDepth 100000 in
set_option maxHeartbeats 800000 in
theorem shareMod4 (ho ir r0 r1 r2 r3 : Int) (s : Int) (w : World) (h4 : 4 ≤ s) (h5 : s ≤ 254) (hs : s % 4 = 3) (hz : (wrap64 (ho - ir) == 0) = false) (q : Nat)
    (hd : Ieee.double.div (floatOfInt .f64 (wrap64 (wrap64 (wrap64 (wrap64 r0 + r1) + r2) + r3))) (floatOfInt .f64 (wrap64 (ho - ir))) = some q) (ho1 : Hid ((FloatKind.f64.format.order q q == some .eq) = true)) :
    Calls Yba.prog 3 #[.int .i64 ho, .int .i64 ir, .agg #[.int .i64 r0, .int .i64 r1, .int .i64 r2, .int .i64 r3], .int .u8 s] w fun e w' => e = .returned (.bool true) ∧ Below w.heap.size w w' := by
  have hn := neq22 r0 r1 r2 r3
  have hq := quo29 hd
  go_enter Yba.func3, Yba.ntmps3
  go_wp2_with fail
  refine (repaired4 (w.heap.size + 1) ho ir r0 r1 r2 r3 _ (by exact ⟨by simp, by simp, by simp, by simp, by simp, by simp⟩) hz q hd).mono ?_
  rintro e w' ⟨rfl, n, rfl⟩
  go_wp2_with fail
  go_quiet (fail)
  go_wp2_with fail
  refine wp_loop_rounds 5 ?_
  rw [rounds_succ]
  go_wp2_with fail
  rw [rounds_succ]
  go_wp2_with fail
  rw [rounds_succ]
  go_wp2_with fail
  rw [rounds_succ]
  go_wp2_with fail
  rw [rounds_succ]
  go_wp2_with fail
  go_ret
  exact ⟨congrArg (fun b => Ending.returned (Value.bool b)) ho1.out, below_drewN (((Below.refl _ _).alloc (Nat.le_refl _) _).alloc (by simp) _) _⟩

set_option maxRecDepth 100000 in
set_option maxHeartbeats 800000 in
theorem shareZ0 (ho ir r0 r1 r2 r3 : Int) (w : World) (hz : (wrap64 (ho - ir) == 0) = true) :
    Calls Yba.prog 3 #[.int .i64 ho, .int .i64 ir, .agg #[.int .i64 r0, .int .i64 r1, .int .i64 r2, .int .i64 r3], .int .u8 0] w fun e w' => e = .returned (.bool true) ∧ Below w.heap.size w w' := by
  have hn := neq22 r0 r1 r2 r3
  go_enter Yba.func3, Yba.ntmps3
  go_wp2_with fail
  refine (repaired_none (w.heap.size + 1) ho ir r0 r1 r2 r3 _ _ (by exact ⟨by simp, by simp, by simp, by simp, by simp, by simp⟩) hz).mono ?_
  rintro e w' ⟨rfl, n, rfl⟩
  go_wp2_with fail
  go_quiet (fail)
  go_wp2_with fail
  go_ret
  exact ⟨congrArg (fun b => Ending.returned (Value.bool b)) one_self, below_drewN (((Below.refl _ _).alloc (Nat.le_refl _) _).alloc (by simp) _) _⟩

set_option maxRecDepth 100000 in
set_option maxHeartbeats 800000 in
theorem shareZ1 (ho ir r0 r1 r2 r3 : Int) (w : World) (hz : (wrap64 (ho - ir) == 0) = true) :
    Calls Yba.prog 3 #[.int .i64 ho, .int .i64 ir, .agg #[.int .i64 r0, .int .i64 r1, .int .i64 r2, .int .i64 r3], .int .u8 1] w fun e w' => e = .returned (.bool true) ∧ Below w.heap.size w w' := by
  have hn := neq22 r0 r1 r2 r3
  go_enter Yba.func3, Yba.ntmps3
  go_wp2_with fail
  refine (repaired_none (w.heap.size + 1) ho ir r0 r1 r2 r3 _ _ (by exact ⟨by simp, by simp, by simp, by simp, by simp, by simp⟩) hz).mono ?_
  rintro e w' ⟨rfl, n, rfl⟩
  go_wp2_with fail
  go_quiet (fail)
  go_wp2_with fail
  go_ret
  exact ⟨congrArg (fun b => Ending.returned (Value.bool b)) one_self, below_drewN (((Below.refl _ _).alloc (Nat.le_refl _) _).alloc (by simp) _) _⟩

set_option maxRecDepth 100000 in
set_option maxHeartbeats 800000 in
theorem shareZ2 (ho ir r0 r1 r2 r3 : Int) (w : World) (hz : (wrap64 (ho - ir) == 0) = true) :
    Calls Yba.prog 3 #[.int .i64 ho, .int .i64 ir, .agg #[.int .i64 r0, .int .i64 r1, .int .i64 r2, .int .i64 r3], .int .u8 2] w fun e w' => e = .returned (.bool true) ∧ Below w.heap.size w w' := by
  have hn := neq22 r0 r1 r2 r3
  go_enter Yba.func3, Yba.ntmps3
  go_wp2_with fail
  refine (repaired_none (w.heap.size + 1) ho ir r0 r1 r2 r3 _ _ (by exact ⟨by simp, by simp, by simp, by simp, by simp, by simp⟩) hz).mono ?_
  rintro e w' ⟨rfl, n, rfl⟩
  go_wp2_with fail
  go_quiet (fail)
  go_wp2_with fail
  go_ret
  exact ⟨congrArg (fun b => Ending.returned (Value.bool b)) one_self, below_drewN (((Below.refl _ _).alloc (Nat.le_refl _) _).alloc (by simp) _) _⟩

set_option maxRecDepth 100000 in
set_option maxHeartbeats 800000 in
theorem shareZ3 (ho ir r0 r1 r2 r3 : Int) (w : World) (hz : (wrap64 (ho - ir) == 0) = true) :
    Calls Yba.prog 3 #[.int .i64 ho, .int .i64 ir, .agg #[.int .i64 r0, .int .i64 r1, .int .i64 r2, .int .i64 r3], .int .u8 3] w fun e w' => e = .returned (.bool true) ∧ Below w.heap.size w w' := by
  have hn := neq22 r0 r1 r2 r3
  go_enter Yba.func3, Yba.ntmps3
  go_wp2_with fail
  refine (repaired_none (w.heap.size + 1) ho ir r0 r1 r2 r3 _ _ (by exact ⟨by simp, by simp, by simp, by simp, by simp, by simp⟩) hz).mono ?_
  rintro e w' ⟨rfl, n, rfl⟩
  go_wp2_with fail
  go_quiet (fail)
  go_wp2_with fail
  go_ret
  exact ⟨congrArg (fun b => Ending.returned (Value.bool b)) one_self, below_drewN (((Below.refl _ _).alloc (Nat.le_refl _) _).alloc (by simp) _) _⟩

set_option maxRecDepth 100000 in
set_option maxHeartbeats 800000 in
theorem shareZ255 (ho ir r0 r1 r2 r3 : Int) (w : World) (hz : (wrap64 (ho - ir) == 0) = true) :
    Calls Yba.prog 3 #[.int .i64 ho, .int .i64 ir, .agg #[.int .i64 r0, .int .i64 r1, .int .i64 r2, .int .i64 r3], .int .u8 255] w fun e w' => e = .returned (.bool true) ∧ Below w.heap.size w w' := by
  have hn := neq22 r0 r1 r2 r3
  go_enter Yba.func3, Yba.ntmps3
  go_wp2_with fail
  refine (repaired_none (w.heap.size + 1) ho ir r0 r1 r2 r3 _ _ (by exact ⟨by simp, by simp, by simp, by simp, by simp, by simp⟩) hz).mono ?_
  rintro e w' ⟨rfl, n, rfl⟩
  go_wp2_with fail
  go_quiet (fail)
  go_wp2_with fail
  go_ret
  exact ⟨congrArg (fun b => Ending.returned (Value.bool b)) one_self, below_drewN (((Below.refl _ _).alloc (Nat.le_refl _) _).alloc (by simp) _) _⟩

set_option maxRecDepth 100000 in
set_option maxHeartbeats 800000 in
theorem shareZm (ho ir r0 r1 r2 r3 : Int) (s : Int) (w : World) (h4 : 4 ≤ s) (h5 : s ≤ 254) (hz : (wrap64 (ho - ir) == 0) = true) :
    Calls Yba.prog 3 #[.int .i64 ho, .int .i64 ir, .agg #[.int .i64 r0, .int .i64 r1, .int .i64 r2, .int .i64 r3], .int .u8 s] w fun e w' => e = .returned (.bool true) ∧ Below w.heap.size w w' := by
  have hn := neq22 r0 r1 r2 r3
  go_enter Yba.func3, Yba.ntmps3
  go_wp2_with fail
  refine (repaired_none (w.heap.size + 1) ho ir r0 r1 r2 r3 _ _ (by exact ⟨by simp, by simp, by simp, by simp, by simp, by simp⟩) hz).mono ?_
  rintro e w' ⟨rfl, n, rfl⟩
  go_wp2_with fail
  go_quiet (fail)
  go_wp2_with fail
  go_ret
  exact ⟨congrArg (fun b => Ending.returned (Value.bool b)) one_self, below_drewN (((Below.refl _ _).alloc (Nat.le_refl _) _).alloc (by simp) _) _⟩

end Go.Proofs.Ybulkckim
