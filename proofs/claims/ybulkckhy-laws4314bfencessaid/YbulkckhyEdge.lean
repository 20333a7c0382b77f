import Derived.Test.YbulkckhyLaw
namespace Go.Proofs.Ybulkckhy
open Go.RowKit

set_option maxRecDepth 100000 in
set_option maxHeartbeats 800000 in
/-- No accounts: a nil slice. -/
theorem law_nil (co : Option Addr) (l cc : Nat) (w : World) :
    Calls Yba.prog 3 #[.slice none 0 0, .slice co l cc] w fun e w' => e = .returned (.bool true) ∧ Below w.heap.size w w' := by
  have hnn := fun w => Lib.run_eql_slice_nil (P := Yba.prog) w 24 32
  go_enter Yba.func3, Yba.ntmps3
  go_wp2_with fail
  refine wp_loop_rounds 1 ?_
  rw [rounds_succ]
  go_wp2_with fail
  refine (newReg_nil _).mono ?_
  rintro e w2 ⟨rfl, rfl⟩
  go_wp2_with fail
  go_quiet (fail)
  go_wp2_with fail
  refine wp_loop_rounds 1 ?_
  rw [rounds_succ]
  go_wp2_with fail
  refine wp_loop_rounds 1 ?_
  rw [rounds_succ]
  go_wp2_with fail
  refine wp_loop_rounds 1 ?_
  rw [rounds_succ]
  go_wp2_with fail
  go_ret
  exact ⟨rfl, below_drewN (((Below.refl _ _).alloc (Nat.le_refl _) _).alloc (by simp) _) _⟩

set_option maxRecDepth 100000 in
set_option maxHeartbeats 800000 in
/-- No accounts: an empty slice that is not nil. -/
theorem law_zero (a : Addr) (ca : Nat) (co : Option Addr) (l cc : Nat) (w : World) :
    Calls Yba.prog 3 #[.slice (some a) 0 ca, .slice co l cc] w fun e w' => e = .returned (.bool true) ∧ Below w.heap.size w w' := by
  have hnn := fun w => Lib.run_eql_slice_nil (P := Yba.prog) w 24 32
  have hmk := make32 0 (by omega)
  simp only [Int.natCast_zero] at hmk
  go_enter Yba.func3, Yba.ntmps3
  go_wp2_with fail
  refine wp_loop_rounds 1 ?_
  rw [rounds_succ]
  go_wp2_with fail
  refine (newReg w.heap.size 0 _ (fun _ => ByteArray.empty) (fun _ => 0) (by omega) (by simp) (fun i hi => by omega) (fun i hi => by omega)).mono ?_
  rintro e w2 ⟨rfl, hR⟩
  have q0 : w2.cell? ⟨w.heap.size + 1, 0, none⟩ = some (.slice (some ⟨w.heap.size, 0, none⟩) 0 0) := by
    have := hR.reg; simp at this; simp [World.cell?, this]
  have q1 : w2.cell? ⟨w.heap.size + 1, 1, none⟩ = some (.slice (some ⟨w.heap.size + 1 + 1, 0, none⟩) 0 0) := by
    have := hR.reg; simp at this; simp [World.cell?, this]
  have q2 : w2.cell? ⟨w.heap.size + 1, 2, none⟩ = some (.slice none 0 0) := by
    have := hR.reg; simp at this; simp [World.cell?, this]
  have hbel : Below w.heap.size w w2 := ((Below.refl _ _).alloc (Nat.le_refl _) _).trans (hR.below.mono (by simp))
  clear hR
  go_wp2_with fail
  go_quiet (fail)
  go_wp2_with fail
  refine wp_loop_rounds 1 ?_
  rw [rounds_succ]
  go_wp2_with fail
  refine wp_loop_rounds 1 ?_
  rw [rounds_succ]
  go_wp2_with fail
  refine wp_loop_rounds 1 ?_
  rw [rounds_succ]
  go_wp2_with fail
  go_ret
  exact ⟨rfl, below_drewN hbel _⟩
end Go.Proofs.Ybulkckhy
