import Derived.Test.YbulkckimPlainC
namespace Go.Proofs.Ybulkckim
open Go.RowKit

def inArr (ms rs : Nat → Int) (al x en px sh : Int) : Array Value :=
  #[.int .u8 (ms 0), .int .u8 (ms 1), .int .u8 (ms 2), .int .u8 (ms 3), .int .u8 (ms 4), .int .u8 (ms 5), .int .u8 (rs 0), .int .u8 (rs 1), .int .u8 (rs 2), .int .u8 (rs 3), .int .u8 (rs 4), .int .u8 (rs 5), .int .u8 al, .int .u8 x, .int .u8 en, .int .u8 px, .int .i64 sh]
def idsArr : Array Value := #[.string ⟨#[48, 48]⟩, .string ⟨#[48, 49]⟩, .string ⟨#[48, 50]⟩, .string ⟨#[49, 48]⟩, .string ⟨#[49, 49]⟩, .string ⟨#[49, 50]⟩]
theorem ids_at : ∀ k, k < 6 → idsArr[k]? = some (.string (idB k)) := six rfl rfl rfl rfl rfl rfl
theorem ms_at (ms rs : Nat → Int) (al x en px sh : Int) : ∀ k, k < 6 → (inArr ms rs al x en px sh)[k]? = some (.int .u8 (ms k)) := six rfl rfl rfl rfl rfl rfl
theorem rs_at (ms rs : Nat → Int) (al x en px sh : Int) : ∀ k, k < 6 → (inArr ms rs al x en px sh)[6 + k]? = some (.int .u8 (rs k)) := six rfl rfl rfl rfl rfl rfl

theorem upd_selE (f : Nat → Bool) (k : Nat) (hf : f k = true) : upd (selE f k) (k / 3) (selE f k (k / 3) ++ [k]) = selE f (k + 1) := by
  funext j
  rw [selE_succ]
  by_cases e : j = k / 3
  · subst e; simp [upd, hf]
  · have : ((k / 3 == j) = false) := by simp; omega
    simp [upd, e, this]
theorem selE_skip (f : Nat → Bool) (k : Nat) (hf : f k = false) : selE f (k + 1) = selE f k := by
  funext j; rw [selE_succ]; simp [hf]
theorem selE_zero (f : Nat → Bool) : selE f 0 = fun _ => [] := by funext j; rfl
end Go.Proofs.Ybulkckim
