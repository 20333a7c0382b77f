import Derived.Test.YbulkckhyFmtMaps
import Derived.Deep.Heap
namespace Go.Proofs.YbulkckhyFmt
open Go.RowKit Go.Extern.Stop Go.Stop Go.Extern
open Go.ChangeMaps (setBlock)

/-- An object at block B (path, members at bm, nothing taken at bt), a reader at R that has kept no error. -/
structure ObjAt (w : World) (B bm bt R : Nat) (path : ByteArray) (es : Array MapEntry) (c : Nat) : Prop where
  c0 : w.cell? ⟨B, 0, none⟩ = some (.string path)
  c2 : w.cell? ⟨B, 2, none⟩ = some (.map (some bm))
  c3 : w.cell? ⟨B, 3, none⟩ = some (.map (some bt))
  mem : w.heap[bm]? = some (.map es c)
  tak : w.heap[bt]? = some (.map #[] 0)
  r0 : w.cell? ⟨R, 0, none⟩ = some (.pointer none)
  rf : w.frozen? ⟨R, 0, none⟩ = false

def took (name : ByteArray) : Obj := .map #[{ key := .string name, val := .bool true, born := 0 }] 1

theorem hide_it {p : Prop} (h : p) : Hid p := h

set_option maxHeartbeats 400000 in
theorem member_ok (B bm bt R : Nat) (path name : ByteArray) (es : Array MapEntry) (c i : Nat) (v : Value) (w : World) (h : ObjAt w B bm bt R path es c)
    (hp : path.size ≤ 140737488351232) (hn : name.size ≤ 140737488351232) (hf : Instr.findNow .string (.string name) es.toList 0 = some (some (i, v))) :
    Calls Ybaf.prog 8 #[.pointer (some ⟨R, 0, none⟩), .pointer (some ⟨B, 0, none⟩), .string name, .bool true] w fun e w' =>
      e = .returned (.tuple #[v, .string (joined path name), .bool true]) ∧ w' = setBlock w bt (took name) := by
  obtain ⟨c0, c2, c3, mem, tak, r0, rf⟩ := h
  have hlk := lookup_at w 30 9 20 bm es c name i v true Ybaf.underlying30 Ybaf.underlying9 mem hf
  have hmu := update_new w 31 9 4 bt #[] 0 name (.bool true) Ybaf.underlying31 Ybaf.underlying9 tak rfl
  simp only [if_true] at hlk
  clear hf mem tak
  go_enter Ybaf.func8, Ybaf.ntmps8
  go_wp2_with (go_at_call 11; refine (join_any _ _ _ hp hn).mono ?_; rintro e w' ⟨rfl, rfl⟩)
  go_ret3
  exact ⟨rfl, rfl⟩

theorem ObjAt.apart {w : World} {B bm bt R : Nat} {path : ByteArray} {es : Array MapEntry} {c : Nat} (h : ObjAt w B bm bt R path es c) : B ≠ R ∧ bt ≠ R ∧ bm ≠ R ∧ B ≠ bt ∧ R < w.heap.size ∧ B < w.heap.size ∧ bt < w.heap.size := by
  have hR := World.block_lt_of_cell? w _ h.r0
  have hB := World.block_lt_of_cell? w _ h.c0
  have ht : bt < w.heap.size := (Array.getElem?_eq_some_iff.1 h.tak).1
  refine ⟨?_, ?_, ?_, ?_, hR, hB, ht⟩
  · rintro rfl; have := h.c0.symm.trans h.r0; simp at this
  · rintro rfl; have := h.r0; simp [World.cell?, h.tak] at this
  · rintro rfl; have := h.r0; simp [World.cell?, h.mem] at this
  · rintro rfl; have := h.c0; simp [World.cell?, h.tak] at this

theorem heap_failW {w : World} {R : Nat} (p t : ByteArray) {k : Nat} (hk : k < w.heap.size) (hne : k ≠ R) : (failW w R p t).heap[k]? = w.heap[k]? := by
  unfold failW
  show ((w.setCell _ _).alloc _).heap[k]? = _
  rw [Go.heap_alloc_old _ _ (by simpa using hk), Deep.blk_setCell_other _ _ _ _ hne]

theorem cell_failW {w : World} {R : Nat} (p t : ByteArray) {a : Addr} (hk : a.block < w.heap.size) (hne : a.block ≠ R) : (failW w R p t).cell? a = w.cell? a :=
  World.cell?_of_block (heap_failW p t hk hne)

set_option maxHeartbeats 400000 in
theorem member_missing (F : Interp) (B bm bt R : Nat) (path name : ByteArray) (es : Array MapEntry) (c : Nat) (w : World) (hF : F.answers w.tape) (h : ObjAt w B bm bt R path es c)
    (hp : path.size ≤ 140737488351232) (hn : name.size ≤ 140737488351232) (hf : Instr.findNow .string (.string name) es.toList 0 = some none) :
    Calls Ybaf.prog 8 #[.pointer (some ⟨R, 0, none⟩), .pointer (some ⟨B, 0, none⟩), .string name, .bool true] w fun e w' =>
      e = .returned (.tuple #[.nilIface, .string (joined path name), .bool false]) ∧ ∃ t, w' = setBlock (failW w R (joined path name) t) bt (took name) := by
  obtain ⟨hBR, htR, _, _, _, hB, ht⟩ := h.apart
  obtain ⟨c0, c2, c3, mem, tak, r0, rf⟩ := h
  have hlk := lookup_none w 30 9 20 bm es c name .nilIface true Ybaf.underlying30 Ybaf.underlying9 mem (by kernel_rfl) hf
  simp only [if_true] at hlk
  have hfm := fail_missing F R (joined path name) w hF r0 rf
  have t1 : ∀ t, (failW w R (joined path name) t).cell? ⟨B, 3, none⟩ = some (.map (some bt)) := fun t => (cell_failW _ _ hB hBR).trans c3
  have t2 : ∀ t, (failW w R (joined path name) t).heap[bt]? = some (.map #[] 0) := fun t => (heap_failW _ _ ht htR).trans tak
  have hmu := fun t => update_new (failW w R (joined path name) t) 31 9 4 bt #[] 0 name (.bool true) Ybaf.underlying31 Ybaf.underlying9 (t2 t) rfl
  have HM := hide_it hfm
  clear hf mem tak hfm t2
  go_enter Ybaf.func8, Ybaf.ntmps8
  go_wp2_with (first | (go_at_call 11; refine (join_any _ _ _ hp hn).mono ?_; rintro e w' ⟨rfl, rfl⟩) | (go_at_call 9; refine HM.out.mono ?_; rintro e w' ⟨rfl, t, rfl⟩))
  go_ret3
  exact ⟨rfl, _, rfl⟩
end Go.Proofs.YbulkckhyFmt
