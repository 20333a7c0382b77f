import Derived.Test.YbulkckqoDoorLaw
namespace Go.Proofs.YbulkckqoDoor
open Go.RowKit Go.Lib

theorem nil_text (w : World) : (convert 27 9 (.slice none 0 0)).run Ybad.prog w = .ok (.string ⟨#[]⟩) w := by
  rw [run_convert_bytes_string w 27 9 5 _ _ _ Ybad.underlying27 Ybad.underlying5 Ybad.underlying9]
  rfl

set_option maxRecDepth 100000 in
theorem law_big (ao : Option Addr) (n c : Nat) (w : World) (hn : 1024 < n) (hnm : n ≤ maxLen) :
    Calls Ybad.prog 3 #[.slice ao n c] w fun e w' => e = .returned (.bool true) ∧ Below w.heap.size w w' := by
  unfold maxLen at hnm
  have hn' : (1024 : Int) < (n : Int) := by omega
  go_enter Ybad.func3, Ybad.ntmps3
  go_wp2
  go_ret
  exact ⟨rfl, Below.refl _ _⟩

set_option maxRecDepth 100000 in
set_option maxHeartbeats 800000 in
theorem law_nil (w : World) : Calls Ybad.prog 3 #[.slice none 0 0] w fun e w' => e = .returned (.bool true) ∧ Below w.heap.size w w' := by
  have hnt := nil_text
  go_enter Ybad.func3, Ybad.ntmps3
  go_wp2_with fail
  refine (format_nil _ _ (by simp)).mono ?_
  rintro e w2 ⟨rfl, hb⟩
  have cv := hb.cell (p := ⟨w.heap.size, 0, none⟩) (by simp)
  have hc0 : w2.cell? ⟨w.heap.size, 0, none⟩ = some (.slice none 0 0) := cv.trans (by simp)
  have hB : Below w.heap.size w w2 := ((Below.refl _ _).alloc (Nat.le_refl _) _).trans (hb.mono (by simp))
  clear cv hb
  go_wp2_with fail
  refine wp_loop_rounds 1 ?_
  rw [rounds_succ]
  go_wp2_with fail
  refine wp_loop_rounds 1 ?_
  rw [rounds_succ]
  go_wp2_with fail
  go_ret
  exact ⟨rfl, hB⟩

set_option maxRecDepth 100000 in
set_option maxHeartbeats 800000 in
theorem law_zero (a : Addr) (c : Nat) (w : World) (ht : Tab w) (h0 : 0 < w.heap.size) : Calls Ybad.prog 3 #[.slice (some a) 0 c] w fun e w' => e = .returned (.bool true) ∧ Below w.heap.size w w' := by
  have hnt := nil_text
  have hmk := make25 0 (by omega)
  simp only [Int.natCast_zero] at hmk
  have HT : Hid _ := ht
  clear ht
  go_enter Ybad.func3, Ybad.ntmps3
  go_wp2_with fail
  refine wp_loop_rounds 1 ?_
  rw [rounds_succ]
  go_wp2_with fail
  have hC := Copy.start w 0 (fun _ => 0) (fun _ => 0)
  generalize ((w.alloc (.cells #[.slice (some ⟨w.heap.size + 1, 0, none⟩) 0 0] 23)).alloc (.cells (made25 0) 25)) = wr at hC ⊢
  have hsz := hC.size
  have cv : wr.cell? ⟨w.heap.size, 0, none⟩ = some (.slice (some ⟨w.heap.size + 1, 0, none⟩) 0 0) := by simp [World.cell?, hC.var]
  refine (format w.heap.size (w.heap.size + 1) 0 wr (fun _ => 0) (fun _ => 0) (by omega) (fun _ => by decide) (fun _ => by decide) cv hC.pairs (by omega) (Tab.kept HT.out hC.below (by omega))).mono ?_
  rintro e w2 ⟨rfl, hb2⟩
  have cv2 := (hb2.cell (p := ⟨w.heap.size, 0, none⟩) (by show w.heap.size < _; omega)).trans cv
  have hB : Below w.heap.size w w2 := hC.below.trans (hb2.mono (by omega))
  have hbt : built (fun _ => 0) (fun _ => 0) 0 = [] := rfl
  rw [hbt]
  clear hC hb2 cv hsz
  go_wp2_with fail
  refine wp_loop_rounds 1 ?_
  rw [rounds_succ]
  go_wp2_with fail
  refine wp_loop_rounds 1 ?_
  rw [rounds_succ]
  go_wp2_with fail
  go_ret
  exact ⟨rfl, hB⟩
end Go.Proofs.YbulkckqoDoor
