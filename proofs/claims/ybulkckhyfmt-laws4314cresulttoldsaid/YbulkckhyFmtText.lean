import Derived.Test.YbulkckhyFmtMember
namespace Go.Proofs.YbulkckhyFmt
open Go.RowKit Go.Extern.Stop Go.Stop Go.Extern
open Go.ChangeMaps (setBlock)
attribute [local go_sem] ta39_9 ta4_9 ta22_9 ta40_9 ta9_9 ta0_9

/-- What (*reader).text leaves: name is taken, nothing else; no error (ok), or one at the joined path. -/
structure TextPost (w w' : World) (N B bt R : Nat) (p name : ByteArray) (ok : Bool) : Prop where
  below : Below N w w'
  c3 : w'.cell? ⟨B, 3, none⟩ = some (.map (some bt))
  tak : w'.heap[bt]? = some (took name)
  kept : ok = true → w'.cell? ⟨R, 0, none⟩ = some (.pointer none)
  err : ok = false → ∃ X, w'.cell? ⟨R, 0, none⟩ = some (.pointer (some ⟨X, 0, none⟩)) ∧ w'.cell? ⟨X, 0, none⟩ = some (.string p)

theorem heap_setBlock {w : World} {b k : Nat} (o : Obj) (h : k ≠ b) : (setBlock w b o).heap[k]? = w.heap[k]? := by
  simp [setBlock, Ne.symm h]
theorem heap_setBlock_at {w : World} {b : Nat} (o : Obj) (h : b < w.heap.size) : (setBlock w b o).heap[b]? = some o := by
  simp [setBlock, h]
theorem below_setBlock {N b : Nat} {w : World} (o : Obj) (h : N ≤ b) : Below N w (setBlock w b o) :=
  ⟨rfl, rfl, rfl, by simp [setBlock], fun k hk => heap_setBlock o (by omega)⟩
theorem below_failW {N R : Nat} {w : World} (p t : ByteArray) (h : N ≤ R) (hN : N ≤ w.heap.size) : Below N w (failW w R p t) := by
  unfold failW
  exact (((Below.refl _ _).setCell h _).alloc (by simpa using hN) _).drew

theorem reader_failW {w : World} {R : Nat} (p t : ByteArray) (hR : R < w.heap.size) {x : Value} (hc : w.cell? ⟨R, 0, none⟩ = some x) :
    (failW w R p t).cell? ⟨R, 0, none⟩ = some (.pointer (some ⟨w.heap.size, 0, none⟩)) ∧ (failW w R p t).cell? ⟨w.heap.size, 0, none⟩ = some (.string p) := by
  unfold failW
  constructor
  · show ((w.setCell _ _).alloc _).cell? _ = _
    rw [World.cell?_alloc_past _ _ _ (by simpa using hR)]
    exact World.cell?_setCell_same _ _ _ hc
  · show ((w.setCell _ _).alloc _).cell? _ = _
    rw [World.cell?_alloc_at _ _ _ _ (by simp)]
    rfl

/-- Of the failing ways: the last world is 'failW' of one that is as setBlock left it. -/
theorem post_failed {w w1 : World} {N B bm bt R : Nat} {path : ByteArray} {es : Array MapEntry} {c : Nat} (h : ObjAt w B bm bt R path es c) (hR : N ≤ R) (_ht : N ≤ bt) (_hw : N ≤ w.heap.size)
    (p t name : ByteArray) (hs : w.heap.size ≤ w1.heap.size) (hb : Below N w w1) (h1 : w1.heap[B]? = w.heap[B]?) (h2 : w1.heap[bt]? = some (took name)) (h3 : w1.heap[R]? = w.heap[R]?) :
    TextPost w (failW w1 R p t) N B bt R p name false := by
  obtain ⟨hBR, htR, _, hBt, hRl, hBl, htl⟩ := h.apart
  have hc : w1.cell? ⟨R, 0, none⟩ = some (.pointer none) := (World.cell?_of_block (a := ⟨R, 0, none⟩) h3).trans h.r0
  have hh := reader_failW p t (show R < w1.heap.size by omega) hc
  refine ⟨hb.trans (below_failW p t hR (by omega)), ?_, ?_, (fun e => by cases e), fun _ => ⟨_, hh.1, hh.2⟩⟩
  · exact (cell_failW p t (a := ⟨B, 3, none⟩) (show B < w1.heap.size by omega) hBR).trans ((World.cell?_of_block (a := ⟨B, 3, none⟩) h1).trans h.c3)
  · exact (heap_failW p t (by omega) htR).trans h2

/-- The missing member: the error first, then the mark. -/
theorem post_missing {w : World} {N B bm bt R : Nat} {path : ByteArray} {es : Array MapEntry} {c : Nat} (h : ObjAt w B bm bt R path es c) (hR : N ≤ R) (ht : N ≤ bt) (hw : N ≤ w.heap.size) (p t name : ByteArray) :
    TextPost w (setBlock (failW w R p t) bt (took name)) N B bt R p name false := by
  obtain ⟨hBR, htR, _, hBt, hRl, hBl, htl⟩ := h.apart
  have hh := reader_failW p t hRl h.r0
  have hsz : (failW w R p t).heap.size = w.heap.size + 1 := by simp [failW]
  refine ⟨(below_failW p t hR hw).trans (below_setBlock _ ht), ?_, heap_setBlock_at _ (by omega), (fun e => by cases e), fun _ => ⟨w.heap.size, ?_, ?_⟩⟩
  · exact (World.cell?_of_block (a := ⟨B, 3, none⟩) (heap_setBlock _ hBt)).trans ((cell_failW p t (a := ⟨B, 3, none⟩) hBl hBR).trans h.c3)
  · exact (World.cell?_of_block (a := ⟨R, 0, none⟩) (heap_setBlock _ (Ne.symm htR))).trans hh.1
  · exact (World.cell?_of_block (a := ⟨w.heap.size, 0, none⟩) (heap_setBlock _ (by show w.heap.size ≠ bt; omega))).trans hh.2

theorem post_fine {w : World} {N B bm bt R : Nat} {path : ByteArray} {es : Array MapEntry} {c : Nat} (h : ObjAt w B bm bt R path es c) (ht : N ≤ bt) (p name : ByteArray) :
    TextPost w (setBlock w bt (took name)) N B bt R p name true := by
  obtain ⟨hBR, htR, _, hBt, hRl, hBl, htl⟩ := h.apart
  refine ⟨below_setBlock _ ht, ?_, heap_setBlock_at _ htl, fun _ => ?_, (fun e => by cases e)⟩
  · exact (World.cell?_of_block (a := ⟨B, 3, none⟩) (heap_setBlock _ hBt)).trans h.c3
  · exact (World.cell?_of_block (a := ⟨R, 0, none⟩) (heap_setBlock _ (Ne.symm htR))).trans h.r0

set_option maxHeartbeats 400000 in
theorem text_missing (F : Interp) (N B bm bt R : Nat) (path name : ByteArray) (es : Array MapEntry) (c : Nat) (w : World) (hF : F.answers w.tape) (h : ObjAt w B bm bt R path es c)
    (hR : N ≤ R) (ht : N ≤ bt) (hw : N ≤ w.heap.size) (hp : path.size ≤ 140737488351232) (hn : name.size ≤ 140737488351232)
    (hf : Instr.findNow .string (.string name) es.toList 0 = some none) :
    Calls Ybaf.prog 6 #[.pointer (some ⟨R, 0, none⟩), .pointer (some ⟨B, 0, none⟩), .string name] w fun e w' =>
      e = .returned (.string ⟨#[]⟩) ∧ TextPost w w' N B bt R (joined path name) name false := by
  have hm := member_missing F B bm bt R path name es c w hF h hp hn hf
  have HP := hide_it (fun t => post_missing h hR ht hw (joined path name) t name)
  clear hf h hF
  go_enter Ybaf.func6, Ybaf.ntmps6
  go_wp2_with fail
  refine hm.mono ?_
  rintro e w' ⟨rfl, t, rfl⟩
  go_wp2_with fail
  go_ret
  exact ⟨rfl, HP.out t⟩

set_option maxHeartbeats 400000 in
theorem text_fine (N B bm bt R : Nat) (path name : ByteArray) (es : Array MapEntry) (c : Nat) (w : World) (h : ObjAt w B bm bt R path es c)
    (ht : N ≤ bt) (hp : path.size ≤ 140737488351232) (hn : name.size ≤ 140737488351232)
    (i : Nat) (s : ByteArray) (hs : s.toList.isEmpty = false) (hf : Instr.findNow .string (.string name) es.toList 0 = some (some (i, .iface 9 (.string s)))) :
    Calls Ybaf.prog 6 #[.pointer (some ⟨R, 0, none⟩), .pointer (some ⟨B, 0, none⟩), .string name] w fun e w' =>
      e = .returned (.string s) ∧ TextPost w w' N B bt R (joined path name) name true := by
  have hm := member_ok B bm bt R path name es c i _ w h hp hn hf
  have HP := hide_it (post_fine h ht (joined path name) name)
  clear hf h
  go_enter Ybaf.func6, Ybaf.ntmps6
  go_wp2_with fail
  refine hm.mono ?_
  rintro e w' ⟨rfl, rfl⟩
  go_wp2_with fail
  go_ret
  exact ⟨rfl, HP.out⟩

/-- The reader behind the mark. -/
theorem ObjAt.reader {w : World} {B bm bt R : Nat} {path : ByteArray} {es : Array MapEntry} {c : Nat} (h : ObjAt w B bm bt R path es c) (name : ByteArray) :
    (setBlock w bt (took name)).cell? ⟨R, 0, none⟩ = some (.pointer none) ∧ (setBlock w bt (took name)).frozen? ⟨R, 0, none⟩ = false := by
  obtain ⟨hBR, htR, _, hBt, hRl, hBl, htl⟩ := h.apart
  exact ⟨(World.cell?_of_block (a := ⟨R, 0, none⟩) (heap_setBlock _ (Ne.symm htR))).trans h.r0, (World.frozen?_of_block (a := ⟨R, 0, none⟩) (heap_setBlock _ (Ne.symm htR))).trans h.rf⟩

set_option maxHeartbeats 400000 in
theorem text_empty (F : Interp) (N B bm bt R : Nat) (path name : ByteArray) (es : Array MapEntry) (c : Nat) (w : World) (hF : F.answers w.tape) (h : ObjAt w B bm bt R path es c)
    (hR : N ≤ R) (ht : N ≤ bt) (hw : N ≤ w.heap.size) (hp : path.size ≤ 140737488351232) (hn : name.size ≤ 140737488351232)
    (i : Nat) (s : ByteArray) (hs : s.toList.isEmpty = true) (hf : Instr.findNow .string (.string name) es.toList 0 = some (some (i, .iface 9 (.string s)))) :
    Calls Ybaf.prog 6 #[.pointer (some ⟨R, 0, none⟩), .pointer (some ⟨B, 0, none⟩), .string name] w fun e w' =>
      e = .returned (.string s) ∧ TextPost w w' N B bt R (joined path name) name false := by
  have hm := member_ok B bm bt R path name es c i _ w h hp hn hf
  obtain ⟨r1, r2⟩ := h.reader name
  obtain ⟨hBR, htR, _, hBt, hRl, hBl, htl⟩ := h.apart
  have hfl := fail_empty F R (joined path name) (setBlock w bt (took name)) hF r1 r2
  have HP := hide_it (fun t => post_failed h hR ht hw (joined path name) t name (w1 := setBlock w bt (took name)) (by simp [setBlock]) (below_setBlock _ ht) (heap_setBlock _ hBt) (heap_setBlock_at _ htl) (heap_setBlock _ (Ne.symm htR)))
  clear hf h hF
  go_enter Ybaf.func6, Ybaf.ntmps6
  go_wp2_with fail
  refine hm.mono ?_
  rintro e w' ⟨rfl, rfl⟩
  go_wp2_with fail
  refine hfl.mono ?_
  rintro e w' ⟨rfl, t, rfl⟩
  go_wp2_with fail
  go_ret
  exact ⟨rfl, HP.out t⟩

/-- The world in which fail is called for a member that is no string: the operand's slice has been laid. -/
def laidW (w : World) (bt : Nat) (name d : ByteArray) : World := (setBlock w bt (took name)).alloc (.cells #[.iface 9 (.string d)] 20)

theorem ObjAt.laid {w : World} {B bm bt R : Nat} {path : ByteArray} {es : Array MapEntry} {c : Nat} (h : ObjAt w B bm bt R path es c) (name d : ByteArray) :
    (laidW w bt name d).cell? ⟨R, 0, none⟩ = some (.pointer none) ∧ (laidW w bt name d).frozen? ⟨R, 0, none⟩ = false ∧ (laidW w bt name d).cell? ⟨w.heap.size, 0, none⟩ = some (.iface 9 (.string d)) := by
  obtain ⟨hBR, htR, _, hBt, hRl, hBl, htl⟩ := h.apart
  obtain ⟨r1, r2⟩ := h.reader name
  have hsz : (setBlock w bt (took name)).heap.size = w.heap.size := by simp [setBlock]
  unfold laidW
  exact ⟨(World.cell?_alloc_past _ _ _ (by omega)).trans r1, (World.frozen?_alloc_past _ _ _ (by omega)).trans r2, by rw [World.cell?_alloc_at _ _ _ _ hsz.symm]; rfl⟩

theorem post_laid {w : World} {N B bm bt R : Nat} {path : ByteArray} {es : Array MapEntry} {c : Nat} (h : ObjAt w B bm bt R path es c) (hR : N ≤ R) (ht : N ≤ bt) (hw : N ≤ w.heap.size) (p t name d : ByteArray) :
    TextPost w (failW (laidW w bt name d) R p t) N B bt R p name false := by
  obtain ⟨hBR, htR, _, hBt, hRl, hBl, htl⟩ := h.apart
  have hsz : (setBlock w bt (took name)).heap.size = w.heap.size := by simp [setBlock]
  have hal : ∀ k, k < w.heap.size → (laidW w bt name d).heap[k]? = (setBlock w bt (took name)).heap[k]? := fun k hk => Go.heap_alloc_old _ _ (by omega)
  exact post_failed h hR ht hw p t name (w1 := laidW w bt name d) (by simp [laidW]; omega) ((below_setBlock _ ht).alloc (by omega) _) ((hal B hBl).trans (heap_setBlock _ hBt)) ((hal bt htl).trans (heap_setBlock_at _ htl))
    ((hal R hRl).trans (heap_setBlock _ (Ne.symm htR)))

set_option maxHeartbeats 400000 in
theorem text_other (F : Interp) (N B bm bt R : Nat) (path name : ByteArray) (es : Array MapEntry) (c : Nat) (w : World) (hF : F.answers w.tape) (h : ObjAt w B bm bt R path es c)
    (hR : N ≤ R) (ht : N ≤ bt) (hw : N ≤ w.heap.size) (hp : path.size ≤ 140737488351232) (hn : name.size ≤ 140737488351232)
    (i : Nat) (v : Value) (hta : ∀ w, (Instr.typeAssert v 20 9 true).run Ybaf.prog w = .ok (.tuple #[.string ⟨#[]⟩, .bool false]) w)
    (hde : ∀ w, Calls Ybaf.prog 10 #[v] w fun e w' => (∃ d, e = .returned (.string d)) ∧ w' = w) (hf : Instr.findNow .string (.string name) es.toList 0 = some (some (i, v))) :
    Calls Ybaf.prog 6 #[.pointer (some ⟨R, 0, none⟩), .pointer (some ⟨B, 0, none⟩), .string name] w fun e w' =>
      e = .returned (.string ⟨#[]⟩) ∧ TextPost w w' N B bt R (joined path name) name false := by
  have hm := member_ok B bm bt R path name es c i _ w h hp hn hf
  have hfl := fun d => fail_string F R w.heap.size (joined path name) d (laidW w bt name d) hF (h.laid name d).1 (h.laid name d).2.1 (h.laid name d).2.2
  have HP := hide_it (fun t d => post_laid h hR ht hw (joined path name) t name d)
  have HD := hide_it hde
  have HF := hide_it hfl
  have hsz : (setBlock w bt (took name)).heap.size = w.heap.size := by simp [setBlock]
  clear hf h hF hde hfl
  go_enter Ybaf.func6, Ybaf.ntmps6
  go_wp2_with fail
  refine hm.mono ?_
  rintro e w' ⟨rfl, rfl⟩
  go_wp2_with fail
  refine (HD.out _).mono ?_
  rintro e w' ⟨⟨d, rfl⟩, rfl⟩
  go_wp2_with fail
  refine (HF.out d).mono ?_
  rintro e w' ⟨rfl, t, rfl⟩
  go_wp2_with fail
  go_ret
  exact ⟨rfl, HP.out t d⟩
end Go.Proofs.YbulkckhyFmt
