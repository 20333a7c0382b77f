import Derived.Test.YbulkckimAlive
namespace Go.Proofs.Ybulkckim
open Go.RowKit Go.Shelf

/-- The law's own count: who is visited, and whether any is. -/
structure VisAt (wE W : World) (vl : List Nat) (b : Bool) : Prop where
  below : Below wE.heap.size wE W
  v : ∃ arr : Array Value, W.heap[wE.heap.size]? = some (.cells arr 65 (0, 0)) ∧ arr.size = 6 ∧ ∀ k, k < 6 → arr[k]? = some (.bool (decide (k ∈ vl)))
  a : W.heap[wE.heap.size + 1]? = some (.cells #[.bool b] 4 (0, 0))

theorem VisAt.start (wE : World) : VisAt wE ((wE.alloc (.cells #[.bool false, .bool false, .bool false, .bool false, .bool false, .bool false] 65)).alloc (.cells #[.bool false] 4)) [] false := by
  have h : ([.cells #[.bool false, .bool false, .bool false, .bool false, .bool false, .bool false] 65, .cells #[.bool false] 4] : List Obj).foldl World.alloc wE = (wE.alloc (.cells #[.bool false, .bool false, .bool false, .bool false, .bool false, .bool false] 65)).alloc (.cells #[.bool false] 4) := rfl
  rw [← h]
  refine ⟨pushes_below _ _, ⟨_, pushes_at wE _ 0 _ rfl, rfl, ?_⟩, pushes_at wE _ 1 _ rfl⟩
  exact six rfl rfl rfl rfl rfl rfl

theorem VisAt.cell {wE W : World} {vl : List Nat} {b : Bool} (h : VisAt wE W vl b) (k : Nat) (hk : k < 6) : W.cell? ⟨wE.heap.size, k, none⟩ = some (.bool (decide (k ∈ vl))) ∧ W.frozen? ⟨wE.heap.size, k, none⟩ = false := by
  obtain ⟨arr, h1, h2, h3⟩ := h.v
  exact ⟨by simp [World.cell?, h1, h3 k hk], by simp [World.frozen?, h1]⟩

theorem VisAt.cellA {wE W : World} {vl : List Nat} {b : Bool} (h : VisAt wE W vl b) : W.cell? ⟨wE.heap.size + 1, 0, none⟩ = some (.bool b) ∧ W.frozen? ⟨wE.heap.size + 1, 0, none⟩ = false := by
  exact ⟨by simp [World.cell?, h.a], by simp [World.frozen?, h.a]⟩

theorem VisAt.mark {wE W : World} {vl : List Nat} {b : Bool} (h : VisAt wE W vl b) (k : Nat) (hk : k < 6) : VisAt wE (W.setCell ⟨wE.heap.size, k, none⟩ (.bool true)) (vl ++ [k]) b := by
  obtain ⟨arr, h1, h2, h3⟩ := h.v
  refine ⟨Below.setCell h.below (by simp) _, ⟨_, blk_setCell_row h1 k _, by simpa using h2, fun q hq => ?_⟩, ?_⟩
  · by_cases e : q = k
    · subst e; simp [h2, hq]
    · rw [Array.getElem?_setIfInBounds_ne (by omega), h3 q hq]; simp [e]
  · rw [Below.heap_setCell _ _ _ _ (by simp)]; exact h.a

theorem VisAt.setAny {wE W : World} {vl : List Nat} {b : Bool} (h : VisAt wE W vl b) : VisAt wE (W.setCell ⟨wE.heap.size + 1, 0, none⟩ (.bool true)) vl true := by
  obtain ⟨arr, h1, h2, h3⟩ := h.v
  refine ⟨Below.setCell h.below (by simp) _, ⟨arr, ?_, h2, h3⟩, ?_⟩
  · rw [Below.heap_setCell _ _ _ _ (by simp)]; exact h1
  · rw [blk_setCell_row h.a 0]; rfl

theorem VisAt.same {wE W : World} {vl vl' : List Nat} {b : Bool} (h : VisAt wE W vl b) (he : ∀ k, k < 6 → (k ∈ vl ↔ k ∈ vl')) : VisAt wE W vl' b := by
  obtain ⟨arr, h1, h2, h3⟩ := h.v
  exact ⟨h.below, ⟨arr, h1, h2, fun k hk => by rw [h3 k hk]; simp [he k hk]⟩, h.a⟩

theorem VisAt.keep {wE W W' : World} {vl : List Nat} {b : Bool} (h : VisAt wE W vl b) (hb : Below wE.heap.size W W') (hc : ∀ (b : Nat) (ob : Obj), W.heap[b]? = some ob → ob.isCells = true → W'.heap[b]? = some ob) : VisAt wE W' vl b := by
  obtain ⟨arr, h1, h2, h3⟩ := h.v
  exact ⟨h.below.trans hb, ⟨arr, hc _ _ h1 rfl, h2, h3⟩, hc _ _ h.a rfl⟩

theorem VisAt.marks {wE W : World} {vl : List Nat} {b : Bool} (h : VisAt wE W vl b) {hi : Nat} {ds : List Deferred} {Ds : List Nat} (hm : Marks wE.heap.size hi ds W Ds) (k : Nat) (v : Value) : Marks wE.heap.size hi ds (W.setCell ⟨wE.heap.size, k, none⟩ v) Ds := by
  obtain ⟨arr, h1, h2, h3⟩ := h.v
  exact hm.set h1 k v

theorem VisAt.marksA {wE W : World} {vl : List Nat} {b : Bool} (h : VisAt wE W vl b) {hi : Nat} {ds : List Deferred} {Ds : List Nat} (hm : Marks wE.heap.size hi ds W Ds) (v : Value) : Marks wE.heap.size hi ds (W.setCell ⟨wE.heap.size + 1, 0, none⟩ v) Ds :=
  hm.set h.a 0 v

theorem Marks.nil (lo hi : Nat) (W : World) : Marks lo hi [] W [] := ⟨rfl, List.nodup_nil, fun D h => by simp at h⟩

theorem keeps_set (n : Nat) (W : World) (a : Addr) (v : Value) : KeepsFrom n W (W.setCell a v) := (KeepsOthers.setCell _ _ _).from _
theorem kpb_set {n Br b : Nat} (W : World) (i : Nat) (v : Value) (hb : n ≤ b) (hne : Br ≠ b) : KpB n Br W (W.setCell ⟨b, i, none⟩ v) := ⟨Below.setCell (Below.refl _ _) hb _, Below.heap_setCell _ _ _ _ hne⟩

/-- Those that are searched. -/
def srch (ms : Nat → Int) (al : Int) (x : Nat) : List Nat := x :: sel (searchable ms al x) 6
theorem srch_six (ms : Nat → Int) (al : Int) (x : Nat) (hx : x < 6) : ∀ y ∈ srch ms al x, y < 6 := fun y hy => by
  rcases List.mem_cons.1 hy with h | h
  · omega
  · exact ((mem_sel _ _ _).1 h).1
end Go.Proofs.Ybulkckim
