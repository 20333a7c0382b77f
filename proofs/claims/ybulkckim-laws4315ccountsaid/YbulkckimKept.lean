import Derived.Test.YbulkckimIdNil
namespace Go.Proofs.Ybulkckim
open Go.RowKit

theorem Fr.alloc {p : Nat → Prop} {w W : World} (h : Fr p w W) (o : Obj) : Fr p w (W.alloc o) :=
  ⟨h.os, h.tape, h.output, by rw [World.size_alloc]; have := h.size; omega, fun b hb hp => (Below.heap_alloc _ _ _ (Nat.lt_of_lt_of_le hb h.size)).trans (h.block b hb hp)⟩

set_option maxRecDepth 100000 in
theorem answerKeptGo (N : Nat) (X : ByteArray) (w : World) (h : w.cell? ⟨N, 66, none⟩ = some (.slice none 0 0)) :
    Calls Yba.prog 40 #[.pointer (some ⟨N, 0, none⟩), .string X] w fun e w' => (∃ v, e = .returned v) ∧ Fr (fun _ => False) w w' := by
  have lN := World.block_lt_of_cell? w _ h
  have h1 : ∀ o1 o2, ((w.alloc o1).alloc o2).cell? ⟨N, 66, none⟩ = some (.slice none 0 0) := fun o1 o2 =>
    ((World.cell?_of_block (w := w.alloc o1) (w' := (w.alloc o1).alloc o2) (a := ⟨N, 66, none⟩) (Below.heap_alloc _ _ N (by rw [World.size_alloc]; exact Nat.lt_succ_of_lt lN))).trans (World.cell?_of_block (w := w) (w' := w.alloc o1) (a := ⟨N, 66, none⟩) (Below.heap_alloc _ _ N lN))).trans h
  clear h
  go_enter Yba.func40, Yba.ntmps40
  go_wp2_with fail
  refine bodyPost_ret (results_none rfl _ _ _) rfl ?_
  exact ⟨⟨_, rfl⟩, ((Fr.refl _ _).alloc _).alloc _⟩
end Go.Proofs.Ybulkckim
