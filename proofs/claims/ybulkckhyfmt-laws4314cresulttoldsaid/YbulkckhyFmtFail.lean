import Derived.Test.YbulkckhyFmtFacts
import Derived.WalkKit
import Derived.WalkSpells
import Derived.WalkLawsBesides
import Derived.Outline
namespace Go.Proofs.YbulkckhyFmt
open Go.RowKit Go.Extern.Stop Go.Stop Go.Extern
attribute [local go_sem] call12 guardF fmtM fmtMr fmtE fmtEr fmtS fmtSr act9 op9 str9

/-- What (*reader).fail leaves where no error was kept: the new error, and the reader's field. -/
def failW (w : World) (R : Nat) (p t : ByteArray) : World :=
  ((w.setCell ⟨R, 0, none⟩ (.pointer (some ⟨w.heap.size, 0, none⟩))).alloc (.cells #[.string p, .string t] 35)).drew

abbrev Mi : ByteArray := ⟨#[109, 105, 115, 115, 105, 110, 103]⟩
abbrev Em : ByteArray := ⟨#[109, 117, 115, 116, 32, 110, 111, 116, 32, 98, 101, 32, 101, 109, 112, 116, 121]⟩
abbrev St : ByteArray := ⟨#[109, 117, 115, 116, 32, 98, 101, 32, 97, 32, 115, 116, 114, 105, 110, 103, 44, 32, 110, 111, 116, 32, 37, 115]⟩

set_option maxHeartbeats 400000 in
theorem fail_missing (F : Interp) (R : Nat) (p : ByteArray) (w : World) (hF : F.answers w.tape) (hc : w.cell? ⟨R, 0, none⟩ = some (.pointer none)) (hf : w.frozen? ⟨R, 0, none⟩ = false) :
    Calls Ybaf.prog 9 #[.pointer (some ⟨R, 0, none⟩), .string p, .string Mi, .slice none 0 0] w fun e w' => e = .returned (.tuple #[]) ∧ ∃ t, w' = failW w R p t := by
  have hF' := answers_open hF
  have hR : R < w.heap.size := World.block_lt_of_cell? w _ hc
  go_enter Ybaf.func9, Ybaf.ntmps9
  go_wp2
  apply rows_value nextTurns
  case hr => go_simp; exact ⟨rfl, rfl⟩
  case h =>
    go_wp2
    go_end0
    exact ⟨rfl, _, rfl⟩

set_option maxHeartbeats 400000 in
theorem fail_empty (F : Interp) (R : Nat) (p : ByteArray) (w : World) (hF : F.answers w.tape) (hc : w.cell? ⟨R, 0, none⟩ = some (.pointer none)) (hf : w.frozen? ⟨R, 0, none⟩ = false) :
    Calls Ybaf.prog 9 #[.pointer (some ⟨R, 0, none⟩), .string p, .string Em, .slice none 0 0] w fun e w' => e = .returned (.tuple #[]) ∧ ∃ t, w' = failW w R p t := by
  have hF' := answers_open hF
  have hR : R < w.heap.size := World.block_lt_of_cell? w _ hc
  go_enter Ybaf.func9, Ybaf.ntmps9
  go_wp2
  apply rows_value nextTurns
  case hr => go_simp; exact ⟨rfl, rfl⟩
  case h =>
    go_wp2
    go_end0
    exact ⟨rfl, _, rfl⟩

set_option maxHeartbeats 400000 in
theorem fail_string (F : Interp) (R V : Nat) (p d : ByteArray) (w : World) (hF : F.answers w.tape) (hc : w.cell? ⟨R, 0, none⟩ = some (.pointer none)) (hf : w.frozen? ⟨R, 0, none⟩ = false)
    (hv : w.cell? ⟨V, 0, none⟩ = some (.iface 9 (.string d))) :
    Calls Ybaf.prog 9 #[.pointer (some ⟨R, 0, none⟩), .string p, .string St, .slice (some ⟨V, 0, none⟩) 1 1] w fun e w' => e = .returned (.tuple #[]) ∧ ∃ t, w' = failW w R p t := by
  have hF' := answers_open hF
  have hR : R < w.heap.size := World.block_lt_of_cell? w _ hc
  go_enter Ybaf.func9, Ybaf.ntmps9
  go_wp2
  apply rows_value nextTurns
  case hr => go_simp; exact ⟨rfl, rfl⟩
  case h =>
    go_wp2
    go_end0
    exact ⟨rfl, _, rfl⟩
end Go.Proofs.YbulkckhyFmt
