import Derived.Test.YbulkckqoDoorFormat
import Derived.Lib.AppendStr
import Derived.Lib.UnsafeStr
import Derived.Deep.QuietTactic
import Derived.BigQuiet
import Derived.Lib.SliceRun
namespace Go.Proofs.YbulkckqoDoor
open Go.RowKit Go.Lib

theorem info5 : (Ybad.prog.info? 5).map (fun i => (i.zero, i.size, i.bytes)) = some (some (.int .u8 0), 1, 1) := by kernel_rfl
theorem info25 : (Ybad.prog.info? 25).map (fun i => (i.zero, i.size, i.bytes)) = some (some (.agg #[.int .i64 0, .int .i64 0]), 2, 16) := by kernel_rfl
def made25 (m : Nat) : Array Value := madeCells #[.int .i64 0, .int .i64 0] (m * 2)
theorem size_made25 (m : Nat) : (made25 m).size = m * 2 := size_madeCells _ _
theorem make25 (m : Nat) (h : m ≤ 1024) (w : World) : (Instr.makeSlice 23 (.int .i64 (m : Int)) (.int .i64 (m : Int))).run Ybad.prog w =
    .ok (.slice (some ⟨w.heap.size, 0, none⟩) m m) (w.alloc (.cells (made25 m) 25)) := by
  obtain ⟨i0, hi, hz0, hz1, hz2⟩ := info_parts info25
  have := run_make (P := Ybad.prog) w 23 25 i0 _ Ybad.underlying23 hi hz0 .i64 .i64 m m (by omega) (by omega) (by rw [hz2]; omega) (by omega)
  rw [this, hz1]
  rfl

set_option maxRecDepth 100000 in
set_option maxHeartbeats 800000 in
theorem format_nil (Fb : Nat) (w : World) (hf : w.cell? ⟨Fb, 0, none⟩ = some (.slice none 0 0)) :
    Calls Ybad.prog 4 #[.pointer (some ⟨Fb, 0, none⟩)] w fun e w' => e = .returned (.string ⟨#[]⟩) ∧ Below w.heap.size w w' := by
  have hmk := make9 0 (by omega)
  simp only [Int.natCast_zero] at hmk
  have hFb : Fb < w.heap.size := World.block_lt_of_cell? w _ hf
  go_enter Ybad.func4, Ybad.ntmps4
  go_wp2_with fail
  refine wp_loop_rounds 1 ?_
  rw [rounds_succ]
  go_wp2_with fail
  refine (Ybad.strings_Join_none _ _ _ _).mono ?_
  rintro e w2 ⟨rfl, rfl⟩
  go_wp2_with fail
  go_ret
  exact ⟨rfl, (Below.refl _ _).alloc (Nat.le_refl _) _⟩

/-- The copy that the law makes of its argument: the variable at N0, its row at N0 + 1, k pairs laid. -/
structure Copy (w wr : World) (n k : Nat) (S Q : Nat → Int) : Prop where
  below : Below w.heap.size w wr
  size : wr.heap.size = w.heap.size + 2
  var : wr.heap[w.heap.size]? = some (.cells #[.slice (some ⟨w.heap.size + 1, 0, none⟩) n n] 23 (0, 0))
  row : ∃ cur : Array Value, wr.heap[w.heap.size + 1]? = some (.cells cur 25 (0, 0)) ∧ cur.size = n * 2 ∧ ∀ j, j < k → cur[j * 2]? = some (.int .i64 (S j)) ∧ cur[j * 2 + 1]? = some (.int .i64 (Q j))

theorem Copy.start (w : World) (n : Nat) (S Q : Nat → Int) : Copy w ((w.alloc (.cells #[.slice (some ⟨w.heap.size + 1, 0, none⟩) n n] 23)).alloc (.cells (made25 n) 25)) n 0 S Q := by
  refine ⟨((Below.refl _ _).alloc (Nat.le_refl _) _).alloc (by simp) _, by simp, ?_, ⟨made25 n, ?_, size_made25 n, fun j hj => by omega⟩⟩
  · rw [Go.heap_alloc_old _ _ (by simp)]; exact heap_alloc_new _ _
  · have := heap_alloc_new (w.alloc (.cells #[.slice (some ⟨w.heap.size + 1, 0, none⟩) n n] 23)) (.cells (made25 n) 25)
    simpa using this

theorem Copy.cells {w wr : World} {n k : Nat} {S Q : Nat → Int} (h : Copy w wr n k S Q) (hk : k < n) :
    (∃ v0 v1, wr.cell? ⟨w.heap.size + 1, k * 2, none⟩ = some v0 ∧ wr.cell? ⟨w.heap.size + 1, k * 2 + 1, none⟩ = some v1) ∧ ∀ i, wr.frozen? ⟨w.heap.size + 1, i, none⟩ = false := by
  obtain ⟨cur, hb, hs, _⟩ := h.row
  exact ⟨⟨cur[k * 2]'(by omega), cur[k * 2 + 1]'(by omega), by simp [World.cell?, hb], by simp [World.cell?, hb]⟩, fun i => by simp [World.frozen?, hb]⟩

theorem Copy.step {w wr : World} {n k : Nat} {S Q : Nat → Int} (h : Copy w wr n k S Q) (hk : k < n) :
    Copy w ((wr.setCell ⟨w.heap.size + 1, k * 2, none⟩ (.int .i64 (S k))).setCell ⟨w.heap.size + 1, k * 2 + 1, none⟩ (.int .i64 (Q k))) n (k + 1) S Q := by
  obtain ⟨cur, hb, hs, hc⟩ := h.row
  refine ⟨(h.below.setCell (by show _ ≤ w.heap.size + 1; omega) _).setCell (by show _ ≤ w.heap.size + 1; omega) _, by simpa using h.size, ?_, ⟨_, blk_setCell_row (blk_setCell_row hb _ _) _ _, by simpa using hs, fun j hj => ?_⟩⟩
  · rw [Deep.blk_setCell_other _ _ _ _ (by simp), Deep.blk_setCell_other _ _ _ _ (by simp)]; exact h.var
  · by_cases e : j = k
    · subst e
      constructor
      · rw [Array.getElem?_setIfInBounds_ne (by omega)]; simp [Array.getElem?_setIfInBounds]; omega
      · simp [Array.getElem?_setIfInBounds]; omega
    · rw [Array.getElem?_setIfInBounds_ne (by omega), Array.getElem?_setIfInBounds_ne (by omega), Array.getElem?_setIfInBounds_ne (by omega), Array.getElem?_setIfInBounds_ne (by omega)]
      exact hc j (by omega)

/-- The law's own text so far. -/
structure Want (w2 wr : World) (v : Value) (bs : List UInt8) : Prop where
  below : Below w2.heap.size w2 wr
  own : wr.ownsRow w2.heap.size 5 1 v bs.length (byteCells bs)

theorem Want.start (w2 : World) : Want w2 w2 (.slice none 0 0) [] := ⟨Below.refl _ _, World.ownsRow_nil _ _ _ _⟩

theorem grown_of_below {w w' : World} (h : Below w.heap.size w w') (row : Option Nat) : w.grownBy w' row := ⟨h.os, h.tape, h.output, h.size, fun k hk _ => h.block k hk⟩

theorem Want.call {w2 wr w' : World} {v : Value} {bs : List UInt8} (h : Want w2 wr v bs) (hb : Below wr.heap.size wr w') : Want w2 w' v bs := by
  refine ⟨h.below.trans (hb.mono h.below.size), ?_⟩
  have hlt := h.own.lt
  refine ⟨h.own.1, ?_⟩
  rcases h.own.2 with hn | ⟨g, cap, cur, rfl, hg, hgg, rest⟩
  · exact .inl hn
  · exact .inr ⟨g, cap, cur, rfl, hg, (hb.block g (Array.getElem?_eq_some_iff.1 hgg).1).trans hgg, rest⟩

theorem Want.grown {w2 wr w1 : World} {v : Value} {bs : List UInt8} (h : Want w2 wr v bs) (hg : wr.grownBy w1 v.ownBlock) : Below w2.heap.size w2 w1 :=
  h.below.grown hg h.below.size (fun k hk => (h.own.lt k hk).1)

theorem Want.one {w2 wr w1 : World} {v v' : Value} {bs : List UInt8} (h : Want w2 wr v bs) (o : Obj) (x : UInt8) (hg : (wr.alloc o).grownBy w1 v.ownBlock)
    (ho : w1.ownsRow w2.heap.size 5 1 v' (bs.length + 1) (byteCells bs ++ [.int .u8 (x.toNat : Int)])) : Want w2 w1 v' (bs ++ [x]) := by
  have h' : Want w2 (wr.alloc o) v bs := ⟨h.below.alloc h.below.size o, h.own.alloc o⟩
  refine ⟨h'.grown hg, ?_⟩
  have e : byteCells (bs ++ [x]) = byteCells bs ++ [.int .u8 (x.toNat : Int)] := by simp [byteCells]
  rw [e, List.length_append]
  exact ho

theorem Want.str {w2 wr w1 : World} {v v' : Value} {bs : List UInt8} (h : Want w2 wr v bs) (A : ByteArray) (hg : wr.grownBy w1 v.ownBlock)
    (ho : w1.ownsRow w2.heap.size 5 1 v' (bs.length + A.size) (byteCells bs ++ strCells A)) : Want w2 w1 v' (bs ++ A.data.toList) := by
  refine ⟨h.grown hg, ?_⟩
  have e : byteCells (bs ++ A.data.toList) = byteCells bs ++ strCells A := by simp [byteCells, strCells]
  have e2 : (bs ++ A.data.toList).length = bs.length + A.size := by simp
  rw [e, e2]
  exact ho
end Go.Proofs.YbulkckqoDoor
