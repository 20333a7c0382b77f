import Derived.Test.YbulkckoyModel
namespace Go.Proofs.Ybulkckoy
open Go.RowKit

theorem placed_none {A : Nat → ByteArray} {m : ByteArray} {x : Int} (h : Placed A 0 m x) : x = 0 := by
  rcases h with ⟨h, _⟩ | ⟨t, _, h, _⟩
  · exact h
  · omega

set_option maxRecDepth 100000 in
set_option maxHeartbeats 800000 in
theorem model_zero (a : Addr) (c : Nat) (mc : ByteArray) (p : Int) (w : World) :
    Calls Yba.prog 3 #[.slice (some a) 0 c, .string mc, .int .u8 p, .bool true] w fun e w' => e = .returned (.bool true) ∧ Below w.heap.size w w' := by
  go_enter Yba.func3, Yba.ntmps3
  go_wp2_with fail
  refine (build a 0 c w (fun _ => ByteArray.empty) (by omega) (fun i hi => by omega)).mono ?_
  rintro e w1 ⟨rfl, hS, hb1⟩
  go_wp2_with fail
  have hsz3 : w.heap.size + 2 < w1.heap.size := World.block_lt_of_cell? w1 ⟨w.heap.size + 2, 0, none⟩ hS.s0
  refine (place _ _ _ 0 mc w1 _ (by omega) hS (by omega)).mono ?_
  rintro e w2 ⟨⟨x, rfl, hP⟩, hb2⟩
  obtain rfl := placed_none hP
  have hS2 := hS.kept hb2 (show w.heap.size + 2 < _ by omega) (show w.heap.size + 1 < _ by omega) (by omega)
  have hB := hb1.trans (hb2.mono (show w.heap.size ≤ w1.heap.size by omega))
  have s0 := hS2.s0
  have c6 := hS2.c6
  clear hS hS2 hP hb1 hb2 hsz3
  go_wp2_with fail
  refine wp_loop_rounds 1 ?_
  rw [rounds_succ]
  go_wp2_with fail
  refine wp_loop_rounds 1 ?_
  rw [rounds_succ]
  go_wp2_with fail
  go_ret
  exact ⟨rfl, hB⟩

set_option maxRecDepth 100000 in
set_option maxHeartbeats 800000 in
theorem model_nil (mc : ByteArray) (p : Int) (up : Bool) (w : World) :
    Calls Yba.prog 3 #[.slice none 0 0, .string mc, .int .u8 p, .bool up] w fun e w' => e = .returned (.bool true) ∧ Below w.heap.size w w' := by
  cases up
  all_goals
    go_enter Yba.func3, Yba.ntmps3
    go_wp2_with fail
    refine (build_nil w (fun _ => ByteArray.empty)).mono ?_
    rintro e w1 ⟨rfl, hS, hb1⟩
    go_wp2_with fail
    have hsz3 : w.heap.size + 2 < w1.heap.size := World.block_lt_of_cell? w1 ⟨w.heap.size + 2, 0, none⟩ hS.s0
    refine (place _ _ _ 0 mc w1 _ (by omega) hS (by omega)).mono ?_
    rintro e w2 ⟨⟨x, rfl, hP⟩, hb2⟩
    obtain rfl := placed_none hP
    have hS2 := hS.kept hb2 (show w.heap.size + 2 < _ by omega) (show w.heap.size + 1 < _ by omega) (by omega)
    have hB := hb1.trans (hb2.mono (show w.heap.size ≤ w1.heap.size by omega))
    have s0 := hS2.s0
    have c6 := hS2.c6
    clear hS hS2 hP hb1 hb2 hsz3
    go_wp2_with fail
    refine wp_loop_rounds 1 ?_
    rw [rounds_succ]
    go_wp2_with fail
    refine wp_loop_rounds 1 ?_
    rw [rounds_succ]
    go_wp2_with fail
    go_ret
    exact ⟨rfl, hB⟩
end Go.Proofs.Ybulkckoy
