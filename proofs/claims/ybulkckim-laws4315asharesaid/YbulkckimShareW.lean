import Derived.Test.YbulkckimProg
import Derived.Test.YbulkckimFloat
import Derived.WalkKit
import Derived.WalkSpells
import Derived.WalkLawsBesides
import Derived.Outline
import Derived.Deep.QuietTactic
import Derived.BigQuiet
namespace Go.Proofs.Ybulkckim
open Go.RowKit

/-- The receiver's cells that are read. -/
structure FailAt (w : World) (B : Nat) (ho ir r0 r1 r2 r3 : Int) : Prop where
  c1 : w.cell? ⟨B, 1, none⟩ = some (.int .i64 ho)
  c2 : w.cell? ⟨B, 2, none⟩ = some (.int .i64 r0)
  c3 : w.cell? ⟨B, 3, none⟩ = some (.int .i64 r1)
  c4 : w.cell? ⟨B, 4, none⟩ = some (.int .i64 r2)
  c5 : w.cell? ⟨B, 5, none⟩ = some (.int .i64 r3)
  c7 : w.cell? ⟨B, 7, none⟩ = some (.int .i64 ir)

set_option maxHeartbeats 400000 in
theorem recoverable (B : Nat) (ho ir r0 r1 r2 r3 : Int) (w : World) (h : FailAt w B ho ir r0 r1 r2 r3) :
    Calls Yba.prog 15 #[.pointer (some ⟨B, 0, none⟩)] w fun e w' => e = .returned (.int .i64 (wrap64 (ho - ir))) ∧ ∃ n, w' = w.drewN n := by
  obtain ⟨c1, c2, c3, c4, c5, c7⟩ := h
  go_enter Yba.func15, Yba.ntmps15
  go_wp2
  go_quiet (fail)
  go_wp2
  go_ret
  exact ⟨rfl, _, rfl⟩

theorem quo29 {a b q : Nat} (h : Ieee.double.div a b = some q) (w : World) : (binOp .quo 29 (.float .f64 a) (.float .f64 b)).run Yba.prog w = .ok (.float .f64 q) w :=
  run_float_arith w .quo 29 .f64 a b q h

set_option maxHeartbeats 400000 in
theorem repaired_none (B : Nat) (ho ir r0 r1 r2 r3 : Int) (s : Int) (w : World) (h : FailAt w B ho ir r0 r1 r2 r3) (hz : (wrap64 (ho - ir) == 0) = true) :
    Calls Yba.prog 5 #[.pointer (some ⟨B, 0, none⟩), .int .u8 s] w fun e w' => e = .returned (.float .f64 4607182418800017408) ∧ ∃ n, w' = w.drewN n := by
  have hr := fun w h => recoverable B ho ir r0 r1 r2 r3 w h
  obtain ⟨c1, c2, c3, c4, c5, c7⟩ := h
  go_enter Yba.func5, Yba.ntmps5
  go_wp2_with fail
  refine (hr _ (by exact ⟨c1, c2, c3, c4, c5, c7⟩)).mono ?_
  rintro e w' ⟨rfl, q, rfl⟩
  go_wp2_with fail
  go_ret
  exact ⟨rfl, _, rfl⟩

set_option maxHeartbeats 400000 in
theorem repaired0 (B : Nat) (ho ir r0 r1 r2 r3 : Int) (w : World) (h : FailAt w B ho ir r0 r1 r2 r3) (hz : (wrap64 (ho - ir) == 0) = false) (q : Nat)
    (hd : Ieee.double.div (floatOfInt .f64 0) (floatOfInt .f64 (wrap64 (ho - ir))) = some q) :
    Calls Yba.prog 5 #[.pointer (some ⟨B, 0, none⟩), .int .u8 255] w fun e w' => e = .returned (.float .f64 q) ∧ ∃ n, w' = w.drewN n := by
  have hr := fun w h => recoverable B ho ir r0 r1 r2 r3 w h
  obtain ⟨c1, c2, c3, c4, c5, c7⟩ := h
  have hq := quo29 hd
  clear hd
  go_enter Yba.func5, Yba.ntmps5
  go_wp2_with fail
  refine (hr _ (by exact ⟨c1, c2, c3, c4, c5, c7⟩)).mono ?_
  rintro e w' ⟨rfl, q, rfl⟩
  go_wp2_with fail
  refine wp_loop_rounds 1 ?_
  rw [rounds_succ]
  go_wp2_with fail
  refine (hr _ (by exact ⟨c1, c2, c3, c4, c5, c7⟩)).mono ?_
  rintro e w' ⟨rfl, q', rfl⟩
  go_wp2_with fail
  go_ret
  exact ⟨rfl, _, rfl⟩

set_option maxHeartbeats 400000 in
theorem repaired1 (B : Nat) (ho ir r0 r1 r2 r3 : Int) (w : World) (h : FailAt w B ho ir r0 r1 r2 r3) (hz : (wrap64 (ho - ir) == 0) = false) (q : Nat)
    (hd : Ieee.double.div (floatOfInt .f64 (wrap64 r0)) (floatOfInt .f64 (wrap64 (ho - ir))) = some q) :
    Calls Yba.prog 5 #[.pointer (some ⟨B, 0, none⟩), .int .u8 0] w fun e w' => e = .returned (.float .f64 q) ∧ ∃ n, w' = w.drewN n := by
  have hr := fun w h => recoverable B ho ir r0 r1 r2 r3 w h
  obtain ⟨c1, c2, c3, c4, c5, c7⟩ := h
  have hq := quo29 hd
  clear hd
  go_enter Yba.func5, Yba.ntmps5
  go_wp2_with fail
  refine (hr _ (by exact ⟨c1, c2, c3, c4, c5, c7⟩)).mono ?_
  rintro e w' ⟨rfl, q, rfl⟩
  go_wp2_with fail
  refine wp_loop_rounds 2 ?_
  rw [rounds_succ]
  go_wp2_with fail
  rw [rounds_succ]
  go_wp2_with fail
  refine (hr _ (by exact ⟨c1, c2, c3, c4, c5, c7⟩)).mono ?_
  rintro e w' ⟨rfl, q', rfl⟩
  go_wp2_with fail
  go_ret
  exact ⟨rfl, _, rfl⟩

set_option maxHeartbeats 400000 in
theorem repaired2 (B : Nat) (ho ir r0 r1 r2 r3 : Int) (w : World) (h : FailAt w B ho ir r0 r1 r2 r3) (hz : (wrap64 (ho - ir) == 0) = false) (q : Nat)
    (hd : Ieee.double.div (floatOfInt .f64 (wrap64 (wrap64 r0 + r1))) (floatOfInt .f64 (wrap64 (ho - ir))) = some q) :
    Calls Yba.prog 5 #[.pointer (some ⟨B, 0, none⟩), .int .u8 1] w fun e w' => e = .returned (.float .f64 q) ∧ ∃ n, w' = w.drewN n := by
  have hr := fun w h => recoverable B ho ir r0 r1 r2 r3 w h
  obtain ⟨c1, c2, c3, c4, c5, c7⟩ := h
  have hq := quo29 hd
  clear hd
  go_enter Yba.func5, Yba.ntmps5
  go_wp2_with fail
  refine (hr _ (by exact ⟨c1, c2, c3, c4, c5, c7⟩)).mono ?_
  rintro e w' ⟨rfl, q, rfl⟩
  go_wp2_with fail
  refine wp_loop_rounds 3 ?_
  rw [rounds_succ]
  go_wp2_with fail
  rw [rounds_succ]
  go_wp2_with fail
  rw [rounds_succ]
  go_wp2_with fail
  refine (hr _ (by exact ⟨c1, c2, c3, c4, c5, c7⟩)).mono ?_
  rintro e w' ⟨rfl, q', rfl⟩
  go_wp2_with fail
  go_ret
  exact ⟨rfl, _, rfl⟩

set_option maxHeartbeats 400000 in
theorem repaired3 (B : Nat) (ho ir r0 r1 r2 r3 : Int) (w : World) (h : FailAt w B ho ir r0 r1 r2 r3) (hz : (wrap64 (ho - ir) == 0) = false) (q : Nat)
    (hd : Ieee.double.div (floatOfInt .f64 (wrap64 (wrap64 (wrap64 r0 + r1) + r2))) (floatOfInt .f64 (wrap64 (ho - ir))) = some q) :
    Calls Yba.prog 5 #[.pointer (some ⟨B, 0, none⟩), .int .u8 2] w fun e w' => e = .returned (.float .f64 q) ∧ ∃ n, w' = w.drewN n := by
  have hr := fun w h => recoverable B ho ir r0 r1 r2 r3 w h
  obtain ⟨c1, c2, c3, c4, c5, c7⟩ := h
  have hq := quo29 hd
  clear hd
  go_enter Yba.func5, Yba.ntmps5
  go_wp2_with fail
  refine (hr _ (by exact ⟨c1, c2, c3, c4, c5, c7⟩)).mono ?_
  rintro e w' ⟨rfl, q, rfl⟩
  go_wp2_with fail
  refine wp_loop_rounds 4 ?_
  rw [rounds_succ]
  go_wp2_with fail
  rw [rounds_succ]
  go_wp2_with fail
  rw [rounds_succ]
  go_wp2_with fail
  rw [rounds_succ]
  go_wp2_with fail
  refine (hr _ (by exact ⟨c1, c2, c3, c4, c5, c7⟩)).mono ?_
  rintro e w' ⟨rfl, q', rfl⟩
  go_wp2_with fail
  go_ret
  exact ⟨rfl, _, rfl⟩

set_option maxHeartbeats 400000 in
theorem repaired4 (B : Nat) (ho ir r0 r1 r2 r3 : Int) (w : World) (h : FailAt w B ho ir r0 r1 r2 r3) (hz : (wrap64 (ho - ir) == 0) = false) (q : Nat)
    (hd : Ieee.double.div (floatOfInt .f64 (wrap64 (wrap64 (wrap64 (wrap64 r0 + r1) + r2) + r3))) (floatOfInt .f64 (wrap64 (ho - ir))) = some q) :
    Calls Yba.prog 5 #[.pointer (some ⟨B, 0, none⟩), .int .u8 3] w fun e w' => e = .returned (.float .f64 q) ∧ ∃ n, w' = w.drewN n := by
  have hr := fun w h => recoverable B ho ir r0 r1 r2 r3 w h
  obtain ⟨c1, c2, c3, c4, c5, c7⟩ := h
  have hq := quo29 hd
  clear hd
  go_enter Yba.func5, Yba.ntmps5
  go_wp2_with fail
  refine (hr _ (by exact ⟨c1, c2, c3, c4, c5, c7⟩)).mono ?_
  rintro e w' ⟨rfl, q, rfl⟩
  go_wp2_with fail
  refine wp_loop_rounds 5 ?_
  rw [rounds_succ]
  go_wp2_with fail
  rw [rounds_succ]
  go_wp2_with fail
  rw [rounds_succ]
  go_wp2_with fail
  rw [rounds_succ]
  go_wp2_with fail
  rw [rounds_succ]
  go_wp2_with fail
  refine (hr _ (by exact ⟨c1, c2, c3, c4, c5, c7⟩)).mono ?_
  rintro e w' ⟨rfl, q', rfl⟩
  go_wp2_with fail
  go_ret
  exact ⟨rfl, _, rfl⟩

end Go.Proofs.Ybulkckim
