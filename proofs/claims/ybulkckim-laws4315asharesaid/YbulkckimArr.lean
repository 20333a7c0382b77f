import Derived.Test.YbulkckimShareW
namespace Go.Proofs.Ybulkckim
open Go.RowKit
theorem info3 : (Yba.prog.info? 3).map (fun i => (i.zero, i.size, i.bytes)) = some (some (.int .i64 0), 1, 8) := by kernel_rfl
theorem size3 (w : World) : (sizeOf 3).run Yba.prog w = .ok 1 w := by kernel_rfl
theorem part3 (cs : Array Value) (i : Nat) (v : Value) (h : cs[i]? = some v) (w : World) : (part 3 cs i).run Yba.prog w = .ok v w := by
  have h1 : (isAgg 3).run Yba.prog w = .ok false w := by kernel_rfl
  simp only [part, Sem.run_bind, h1, Result.andThen_ok, Bool.false_eq_true, if_false]
  simp [h]
theorem eqArr (d : Nat) (xs : Array Value) (a b c e : Int) (hx : xs = #[.int .i64 a, .int .i64 b, .int .i64 c, .int .i64 e]) (w : World) :
    (Op.equalIn (d + 2) 22 (.agg xs) (.agg xs)).run Yba.prog w = .ok true w := by
  have hi : ∀ (x : Int) (w : World), (Op.equalIn (d + 1) 3 (.int .i64 x) (.int .i64 x)).run Yba.prog w = .ok true w := fun x w => by
    rw [run_equalIn_int w d 3 .i64 .i64 x x Yba.underlying3]; simp
  have p0 := part3 xs 0 _ (by rw [hx]; rfl)
  have p1 := part3 xs 1 _ (by rw [hx]; rfl)
  have p2 := part3 xs 2 _ (by rw [hx]; rfl)
  have p3 := part3 xs 3 _ (by rw [hx]; rfl)
  unfold Op.equalIn
  simp only [Sem.run_bind, run_underlying Yba.underlying22, Result.andThen_ok, size3]
  simp [List.range', p0, p1, p2, p3, hi]
theorem neq22 (a b c e : Int) (w : World) : (binOp .neq 22 (.agg #[.int .i64 a, .int .i64 b, .int .i64 c, .int .i64 e]) (.agg #[.int .i64 a, .int .i64 b, .int .i64 c, .int .i64 e])).run Yba.prog w = .ok (.bool false) w := by
  rw [run_neq_struct, eqArr 9998 _ a b c e rfl]
  rfl
end Go.Proofs.Ybulkckim
