import Derived.Test.YbulkckimEnough
namespace Go.Proofs.Ybulkckim
open Go.RowKit

/-- A node, whole: its table, its status, its reverse neighbours. -/
def NodeAt (W : World) (N k : Nat) (mem rev : List Nat) : Prop :=
  (∃ ca, W.heap[N]? = some (.cells ca 110 (0, 0))) ∧ W.cell? ⟨N, 1, none⟩ = some (.int .u8 4) ∧
  (∃ T m₀ E S V U L M, W.cell? ⟨N, 0, none⟩ = some (.pointer (some ⟨T, 0, none⟩)) ∧ TabAt m₀ W T E S V U k L M ∧ flat L 8 = mem ∧ ∀ j, j < 8 → k ∉ L j) ∧
  ∃ m₀ ov iv, RevAt m₀ W N ov iv rev

theorem cell_keep {W W' : World} {a : Addr} {v : Value} (h : W.cell? a = some v) (hb : Below W.heap.size W W') : W'.cell? a = some v :=
  (hb.cell (p := a) (World.block_lt_of_cell? W a h)).trans h

theorem RevAt.keep {m₀ : Nat} {W W' : World} {N : Nat} {ov iv : Value} {R : List Nat} (h : RevAt m₀ W N ov iv R) (hb : Below W.heap.size W W') : RevAt m₀ W' N ov iv R :=
  ⟨cell_keep h.o hb, cell_keep h.i hb, ownsRow_keep h.ro hb, ownsRow_keep h.ri hb, h.six⟩

theorem obj_keep {W W' : World} {b : Nat} {ob : Obj} (h : W.heap[b]? = some ob) (hb : Below W.heap.size W W') : W'.heap[b]? = some ob :=
  (hb.block b (Array.getElem?_eq_some_iff.1 h).1).trans h

theorem NodeAt.keep {W W' : World} {N k : Nat} {mem rev : List Nat} (h : NodeAt W N k mem rev) (hb : Below W.heap.size W W') : NodeAt W' N k mem rev := by
  obtain ⟨⟨ca, h1⟩, h2, ⟨T, m₀, E, S, V, U, L, M, h3, h4, h5, h6⟩, m₁, ov, iv, h7⟩ := h
  exact ⟨⟨ca, obj_keep h1 hb⟩, cell_keep h2 hb, ⟨T, m₀, E, S, V, U, L, M, cell_keep h3 hb, h4.keep hb, h5, h6⟩, m₁, ov, iv, h7.keep hb⟩

/-- The six nodes. -/
structure Nodes (W : World) (NB : Nat → Nat) (mem rev : Nat → List Nat) : Prop where
  at' : ∀ k, k < 6 → NodeAt W (NB k) k (mem k) (rev k)
  inj : ∀ i, i < 6 → ∀ j, j < 6 → NB i = NB j → i = j

theorem Nodes.keep {W W' : World} {NB : Nat → Nat} {mem rev : Nat → List Nat} (h : Nodes W NB mem rev) (hb : Below W.heap.size W W') : Nodes W' NB mem rev :=
  ⟨fun k hk => (h.at' k hk).keep hb, h.inj⟩

/-- makeUp's own world. -/
structure MU (w W : World) (am : Nat) (ev : Value) (P : ByteArray) (s : Int) (NB : Nat → Nat) (res : Bool) (fv : Value) (F : List Nat) (sv : Value) (S : List Nat) : Prop where
  below : Below w.heap.size w W
  k0 : W.heap[w.heap.size]? = some (.cells #[.map (some am)] 61 (0, 0))
  k1 : W.heap[w.heap.size + 1]? = some (.cells #[ev] 62 (0, 0))
  k2 : W.heap[w.heap.size + 2]? = some (.cells #[.string P] 9 (0, 0))
  k3 : W.heap[w.heap.size + 3]? = some (.cells #[.int .i64 s] 3 (0, 0))
  k4 : W.heap[w.heap.size + 4]? = some (.cells #[.bool res] 4 (0, 0))
  k5 : W.heap[w.heap.size + 5]? = some (.cells #[fv] 62 (0, 0))
  k6 : W.heap[w.heap.size + 6]? = some (.cells #[.func (.func 24) #[] #[.pointer (some ⟨w.heap.size, 0, none⟩), .pointer (some ⟨w.heap.size + 2, 0, none⟩), .pointer (some ⟨w.heap.size + 1, 0, none⟩), .pointer (some ⟨w.heap.size + 5, 0, none⟩), .pointer (some ⟨w.heap.size + 3, 0, none⟩)]] 84 (0, 0))
  k8 : W.heap[w.heap.size + 8]? = some (.cells #[sv] 85 (0, 0))
  rF : IdRow (w.heap.size + 7) W fv F
  rS : NdRow (w.heap.size + 7) W sv NB S

theorem row_cells {W W' : World} {n₀ : Nat} {e : TypeId} {v : Value} {n : Nat} {xs : List Value} (h : W.ownsRow n₀ e 1 v n xs) (hc : ∀ (b : Nat) (ob : Obj), W.heap[b]? = some ob → ob.isCells = true → W'.heap[b]? = some ob) : W'.ownsRow n₀ e 1 v n xs :=
  row_other h fun g hg => by obtain ⟨c, hcur⟩ := row_tag h hg; rw [hcur]; exact hc g _ hcur rfl

theorem MU.keep {w W W' : World} {am : Nat} {ev : Value} {P : ByteArray} {s : Int} {NB : Nat → Nat} {res : Bool} {fv : Value} {F : List Nat} {sv : Value} {S : List Nat} (h : MU w W am ev P s NB res fv F sv S) (hb : Below w.heap.size W W')
    (hc : ∀ (b : Nat) (ob : Obj), W.heap[b]? = some ob → ob.isCells = true → W'.heap[b]? = some ob) : MU w W' am ev P s NB res fv F sv S :=
  ⟨h.below.trans hb, hc _ _ h.k0 rfl, hc _ _ h.k1 rfl, hc _ _ h.k2 rfl, hc _ _ h.k3 rfl, hc _ _ h.k4 rfl, hc _ _ h.k5 rfl, hc _ _ h.k6 rfl, hc _ _ h.k8 rfl, row_cells h.rF hc, row_cells h.rS hc⟩

/-- The found ones have turned. -/
theorem MU.found {w W W' : World} {am : Nat} {ev : Value} {P : ByteArray} {s : Int} {NB : Nat → Nat} {res : Bool} {fv fv' : Value} {F F' : List Nat} {sv : Value} {S : List Nat} (h : MU w W am ev P s NB res fv F sv S)
    (hf : Fr (fun b => b = w.heap.size + 5 ∨ fv.ownBlock = some b) W W') (h5 : W'.heap[w.heap.size + 5]? = some (.cells #[fv'] 62 (0, 0))) (hr : IdRow (w.heap.size + 7) W' fv' F') : MU w W' am ev P s NB res fv' F' sv S := by
  have far : ∀ b cs t, W.heap[b]? = some (.cells cs t (0, 0)) → b ≠ w.heap.size + 5 → t ≠ 36 → W'.heap[b]? = some (.cells cs t (0, 0)) := fun b cs t hb h1 h2 => hf.obj hb (fun e => by
    rcases e with e | e
    · exact h1 e
    · obtain ⟨c, hc⟩ := row_tag h.rF e; rw [hb] at hc; cases hc; exact h2 rfl)
  have hB : Below w.heap.size W W' := hf.below h.below.size (fun b e => by
    rcases e with e | e
    · omega
    · have := row_ge h.rF e; omega)
  refine ⟨h.below.trans hB, far _ _ _ h.k0 (by omega) (by decide), far _ _ _ h.k1 (by omega) (by decide), far _ _ _ h.k2 (by omega) (by decide), far _ _ _ h.k3 (by omega) (by decide), far _ _ _ h.k4 (by omega) (by decide), h5, far _ _ _ h.k6 (by omega) (by decide), far _ _ _ h.k8 (by omega) (by decide), hr, ?_⟩
  refine row_other h.rS fun g hg => ?_
  obtain ⟨c, hc⟩ := row_tag h.rS hg
  rw [hc]
  exact far g _ _ hc (fun e => by rw [e, h.k5] at hc; cases hc) (by decide)

/-- A cell of makeUp's own is set. -/
theorem MU.setRes {w W : World} {am : Nat} {ev : Value} {P : ByteArray} {s : Int} {NB : Nat → Nat} {res : Bool} {fv : Value} {F : List Nat} {sv : Value} {S : List Nat} (h : MU w W am ev P s NB res fv F sv S) (b : Bool) :
    MU w (W.setCell ⟨w.heap.size + 4, 0, none⟩ (.bool b)) am ev P s NB b fv F sv S := by
  have far : ∀ j ob, W.heap[j]? = some ob → j ≠ w.heap.size + 4 → (W.setCell ⟨w.heap.size + 4, 0, none⟩ (.bool b)).heap[j]? = some ob := fun j ob hj hne => (Below.heap_setCell _ _ _ _ hne).trans hj
  refine ⟨h.below.setCell (by show w.heap.size ≤ w.heap.size + 4; omega) _, far _ _ h.k0 (by omega), far _ _ h.k1 (by omega), far _ _ h.k2 (by omega), far _ _ h.k3 (by omega), ?_, far _ _ h.k5 (by omega), far _ _ h.k6 (by omega), far _ _ h.k8 (by omega), ?_, ?_⟩
  · have := blk_setCell_row h.k4 0 (.bool b)
    simpa using this
  · refine row_other h.rF fun g hg => ?_
    obtain ⟨c, hc⟩ := row_tag h.rF hg
    rw [hc]
    exact far g _ hc (fun e => by rw [e, h.k4] at hc; cases hc)
  · refine row_other h.rS fun g hg => ?_
    obtain ⟨c, hc⟩ := row_tag h.rS hg
    rw [hc]
    exact far g _ hc (fun e => by rw [e, h.k4] at hc; cases hc)

/-- The searched ones have turned: append, then the store. -/
theorem MU.search {w W W1 W2 : World} {am : Nat} {ev : Value} {P : ByteArray} {s : Int} {NB : Nat → Nat} {res : Bool} {fv : Value} {F : List Nat} {sv : Value} {S : List Nat} (h : MU w W am ev P s NB res fv F sv S) {g cap k : Nat}
    (hb : Below W.heap.size W W1) (hown : W2.ownsRow (w.heap.size + 7) 41 1 (.slice (some ⟨g, 0, none⟩) (S.length + 1) cap) (S.length + 1) ((S.map fun k => Value.pointer (some ⟨NB k, 0, none⟩)) ++ [.pointer (some ⟨NB k, 0, none⟩)]))
    (hgr : W1.grownBy W2 sv.ownBlock) (hat : sv.ownBlock = some g ∨ W1.heap.size ≤ g) :
    MU w (W2.setCell ⟨w.heap.size + 8, 0, none⟩ (.slice (some ⟨g, 0, none⟩) (S.length + 1) cap)) am ev P s NB res fv F (.slice (some ⟨g, 0, none⟩) (S.length + 1) cap) (S ++ [k]) ∧
      Fr (fun b => b = w.heap.size + 8 ∨ sv.ownBlock = some b) W (W2.setCell ⟨w.heap.size + 8, 0, none⟩ (.slice (some ⟨g, 0, none⟩) (S.length + 1) cap)) := by
  have hs8 : sv.ownBlock ≠ some (w.heap.size + 8) := fun e => by obtain ⟨c, hc⟩ := row_tag h.rS e; rw [h.k8] at hc; cases hc
  have l8 := (Array.getElem?_eq_some_iff.1 h.k8).1
  have old : ∀ b ob, W.heap[b]? = some ob → sv.ownBlock ≠ some b → W2.heap[b]? = some ob := fun b ob hob hne => by
    have hlt := (Array.getElem?_eq_some_iff.1 hob).1
    rw [hgr.block b (by have := hb.size; omega) (fun e => hne e.symm), hb.block b hlt, hob]
  have far : ∀ b cs t, W.heap[b]? = some (.cells cs t (0, 0)) → b ≠ w.heap.size + 8 → t ≠ 41 → (W2.setCell ⟨w.heap.size + 8, 0, none⟩ (.slice (some ⟨g, 0, none⟩) (S.length + 1) cap)).heap[b]? = some (.cells cs t (0, 0)) := fun b cs t hob h1 h2 => by
    rw [Below.heap_setCell _ _ _ _ h1]
    exact old b _ hob (fun e => by obtain ⟨c, hc⟩ := row_tag h.rS e; rw [hob] at hc; cases hc; exact h2 rfl)
  have hg8 : g ≠ w.heap.size + 8 := by
    rcases hat with h1 | h1
    · intro e; exact hs8 (by rw [h1, e])
    · have := hb.size; omega
  have hfr : Fr (fun b => b = w.heap.size + 8 ∨ sv.ownBlock = some b) W (W2.setCell ⟨w.heap.size + 8, 0, none⟩ (.slice (some ⟨g, 0, none⟩) (S.length + 1) cap)) := by
    refine ⟨hgr.os.trans hb.os, hgr.tape.trans hb.tape, hgr.output.trans hb.output, ?_, fun b hlt hp => ?_⟩
    · have h1 := hgr.size
      have h2 := hb.size
      simp [World.setCell]
      omega
    · rw [Below.heap_setCell _ _ _ _ (fun e => hp (.inl e)), hgr.block b (by have := hb.size; omega) (fun e => hp (.inr e.symm)), hb.block b hlt]
  have hB := hfr.below h.below.size (fun b e => by
    rcases e with e | e
    · omega
    · have := row_ge h.rS e; omega)
  refine ⟨⟨h.below.trans hB, far _ _ _ h.k0 (by omega) (by decide), far _ _ _ h.k1 (by omega) (by decide), far _ _ _ h.k2 (by omega) (by decide), far _ _ _ h.k3 (by omega) (by decide), far _ _ _ h.k4 (by omega) (by decide), far _ _ _ h.k5 (by omega) (by decide), far _ _ _ h.k6 (by omega) (by decide), ?_, ?_, ?_⟩, hfr⟩
  · have := blk_setCell_row (old _ _ h.k8 hs8) 0 (.slice (some ⟨g, 0, none⟩) (S.length + 1) cap)
    simpa using this
  · refine row_other h.rF fun g' hg' => ?_
    obtain ⟨c, hc⟩ := row_tag h.rF hg'
    rw [hc]
    exact far g' _ _ hc (fun e => by rw [e, h.k8] at hc; cases hc) (by decide)
  · refine row_other (W := W2) (n := (S ++ [k]).length) (xs := (S ++ [k]).map fun k => Value.pointer (some ⟨NB k, 0, none⟩)) ?_ (fun g' hg' => ?_)
    · simpa using hown
    · cases hg'; exact Below.heap_setCell _ _ _ _ hg8
end Go.Proofs.Ybulkckim
