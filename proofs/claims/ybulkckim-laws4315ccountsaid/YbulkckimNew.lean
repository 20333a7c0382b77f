import Derived.Test.YbulkckimTab
import Derived.WideMake
namespace Go.Proofs.Ybulkckim
open Go.RowKit

theorem info62 : (Yba.prog.info? 62).map (fun i => (i.zero, i.size, i.bytes)) = some (some (.slice none 0 0), 1, 24) := by kernel_rfl
theorem info80 : (Yba.prog.info? 80).map (fun i => (i.zero, i.size, i.bytes)) = some (some (.slice none 0 0), 1, 24) := by kernel_rfl
theorem info36 : (Yba.prog.info? 36).map (fun i => (i.zero, i.size, i.bytes)) = some (some (.string ⟨#[]⟩), 1, 16) := by kernel_rfl
theorem info48 : (Yba.prog.info? 48).map (fun i => (i.zero, i.size, i.bytes)) = some (some (.int .u8 0), 1, 1) := by kernel_rfl

def nil8 : Array Value := madeCells #[.slice none 0 0] 8
theorem nil8_size : nil8.size = 8 := by unfold nil8; rw [size_madeCells]
theorem nil8_at (j : Nat) (hj : j < 8) : nil8[j]? = some (Value.slice none 0 0) := by
  unfold nil8 madeCells
  simp [hj, Nat.mod_one]

theorem make72 (w : World) : (Instr.makeSlice 72 (.int .i64 8) (.int .i64 8)).run Yba.prog w = .ok (.slice (some ⟨w.heap.size, 0, none⟩) 8 8) (w.alloc (.cells nil8 62)) := by
  obtain ⟨i0, hi, hz0, hz1, hz2⟩ := info_parts info62
  have := run_make (P := Yba.prog) w 72 62 i0 _ Yba.underlying72 hi hz0 .i64 .i64 8 8 (by omega) (by omega) (by rw [hz2]; omega) (by omega)
  rw [hz1] at this
  refine Eq.trans this ?_
  rfl
theorem make73 (w : World) : (Instr.makeSlice 73 (.int .i64 8) (.int .i64 8)).run Yba.prog w = .ok (.slice (some ⟨w.heap.size, 0, none⟩) 8 8) (w.alloc (.cells nil8 80)) := by
  obtain ⟨i0, hi, hz0, hz1, hz2⟩ := info_parts info80
  have := run_make (P := Yba.prog) w 73 80 i0 _ Yba.underlying73 hi hz0 .i64 .i64 8 8 (by omega) (by omega) (by rw [hz2]; omega) (by omega)
  rw [hz1] at this
  refine Eq.trans this ?_
  rfl

theorem al4 (w : World) (a b c d : Obj) : ((((w.alloc a).alloc b).alloc c).alloc d).heap[w.heap.size + 1]? = some b ∧ ((((w.alloc a).alloc b).alloc c).alloc d).heap[w.heap.size + 1 + 1]? = some c ∧
    ((((w.alloc a).alloc b).alloc c).alloc d).heap[w.heap.size + 1 + 1 + 1]? = some d := by
  have e1 : (w.alloc a).heap.size = w.heap.size + 1 := by simp
  have e2 : ((w.alloc a).alloc b).heap.size = w.heap.size + 1 + 1 := by simp
  have e3 : (((w.alloc a).alloc b).alloc c).heap.size = w.heap.size + 1 + 1 + 1 := by simp
  refine ⟨?_, ?_, ?_⟩
  · rw [Go.heap_alloc_old _ _ (by omega), Go.heap_alloc_old _ _ (by omega), ← e1]; exact heap_alloc_new _ _
  · rw [Go.heap_alloc_old _ _ (by omega), ← e2]; exact heap_alloc_new _ _
  · rw [← e3]; exact heap_alloc_new _ _

theorem TabAt.fresh {n₀ : Nat} {W : World} {T E S o : Nat} (hT : W.heap[T]? = some (.cells #[.string (idB o), .int .i64 4, .int .i64 2, .int .i64 16, .slice (some ⟨E, 0, none⟩) 8 8, .slice (some ⟨S, 0, none⟩) 8 8] 75 (0, 0)))
    (hE : W.heap[E]? = some (.cells nil8 62 (0, 0))) (hS : W.heap[S]? = some (.cells nil8 80 (0, 0))) (h1 : n₀ ≤ T) (h2 : n₀ ≤ E) (h3 : n₀ ≤ S) :
    TabAt n₀ W T E S (fun _ => .slice none 0 0) (fun _ => .slice none 0 0) o (fun _ => []) (fun _ => 0) := by
  have h8 := nil8_at
  exact ⟨hT, ⟨nil8, hE, nil8_size, h8⟩, ⟨nil8, hS, nil8_size, h8⟩, fun _ _ => World.ownsRow_nil _ _ _ _, fun _ _ => ⟨[], World.ownsRow_nil _ _ _ _⟩, fun _ _ _ _ _ _ h => by simp [Value.ownBlock] at h, fun _ _ _ _ _ _ h => by simp [Value.ownBlock] at h, h1, h2, h3, fun _ _ _ h => by simp at h⟩

set_option maxRecDepth 100000 in
set_option maxHeartbeats 1600000 in
theorem newTable (o : Nat) (w : World) :
    Calls Yba.prog 6 #[.string (idB o), .agg #[.int .i64 4, .int .i64 2, .int .i64 16]] w fun e w' => ∃ T E S, e = .returned (.pointer (some ⟨T, 0, none⟩)) ∧ TabAt w.heap.size w' T E S (fun _ => .slice none 0 0) (fun _ => .slice none 0 0) o (fun _ => []) (fun _ => 0) ∧ Below w.heap.size w w' := by
  obtain ⟨X, hX⟩ : ∃ X, idB o = X := ⟨_, rfl⟩
  have HX : Hid _ := hX
  rw [hX]
  clear hX
  have hw8 : IntKind.i64.wrap 8 = 8 := by decide +kernel
  have h72 : ∀ w : World, (Instr.makeSlice 72 (.int .i64 (IntKind.i64.wrap 8)) (.int .i64 (IntKind.i64.wrap 8))).run Yba.prog w = .ok (.slice (some ⟨w.heap.size, 0, none⟩) 8 8) (w.alloc (.cells nil8 62)) := by rw [hw8]; exact make72
  have h73 : ∀ w : World, (Instr.makeSlice 73 (.int .i64 (IntKind.i64.wrap 8)) (.int .i64 (IntKind.i64.wrap 8))).run Yba.prog w = .ok (.slice (some ⟨w.heap.size, 0, none⟩) 8 8) (w.alloc (.cells nil8 80)) := by rw [hw8]; exact make73
  clear hw8
  go_enter Yba.func6, Yba.ntmps6
  go_wp2_with fail
  go_region_held3 (fun w' => w'.cell? ⟨w.heap.size, 0, none⟩ = some (.int .i64 4) ∧ w'.cell? ⟨w.heap.size, 1, none⟩ = some (.int .i64 2) ∧ w'.cell? ⟨w.heap.size, 2, none⟩ = some (.int .i64 16))
    (go_keep) (fail)
  · go_wp2_with fail
    go_ret
    refine ⟨w.heap.size + 1 + 1 + 1, w.heap.size + 1, w.heap.size + 1 + 1, rfl, ?_, ?_⟩
    · rw [← HX.out]
      refine TabAt.fresh (al4 w _ _ _ _).2.2 (al4 w _ _ _ _).1 (al4 w _ _ _ _).2.1 (by omega) (by omega) (by omega)
    · exact (((((Below.refl _ w).alloc (Nat.le_refl _) _).alloc (by simp) _).alloc (by simp; omega) _).alloc (by simp; omega) _).drew
  · go_wp2_with fail
    go_ret
    refine ⟨w.heap.size + 1 + 1 + 1, w.heap.size + 1 + 1, w.heap.size + 1, rfl, ?_, ?_⟩
    · rw [← HX.out]
      refine TabAt.fresh (al4 w _ _ _ _).2.2 (al4 w _ _ _ _).2.1 (al4 w _ _ _ _).1 (by omega) (by omega) (by omega)
    · exact (((((Below.refl _ w).alloc (Nat.le_refl _) _).alloc (by simp) _).alloc (by simp; omega) _).alloc (by simp; omega) _).drew

theorem row_tag {W : World} {n₀ : Nat} {e : TypeId} {v : Value} {n : Nat} {xs : List Value} (h : W.ownsRow n₀ e 1 v n xs) {g : Nat} (hg : v.ownBlock = some g) : ∃ cur, W.heap[g]? = some (.cells cur e (0, 0)) := by
  obtain ⟨hl, ⟨rfl, rfl⟩ | ⟨g', cap, cur, rfl, _, hh, h1, h2, h3, h4⟩⟩ := h
  · cases hg
  · cases hg; exact ⟨cur, hh⟩

theorem row_ge {W : World} {n₀ : Nat} {e : TypeId} {v : Value} {n : Nat} {xs : List Value} (h : W.ownsRow n₀ e 1 v n xs) {g : Nat} (hg : v.ownBlock = some g) : n₀ ≤ g := by
  obtain ⟨hl, ⟨rfl, rfl⟩ | ⟨g', cap, cur, rfl, h0, hh, h1, h2, h3, h4⟩⟩ := h
  · cases hg
  · cases hg; exact h0

theorem row_other {W W' : World} {n₀ : Nat} {e : TypeId} {v : Value} {n : Nat} {xs : List Value} (h : W.ownsRow n₀ e 1 v n xs) (hb : ∀ g, v.ownBlock = some g → W'.heap[g]? = W.heap[g]?) : W'.ownsRow n₀ e 1 v n xs := by
  obtain ⟨hl, ⟨rfl, rfl⟩ | ⟨g, cap, cur, rfl, hg, hh, h1, h2, h3, h4⟩⟩ := h
  · exact ⟨hl, .inl ⟨rfl, rfl⟩⟩
  · exact ⟨hl, .inr ⟨g, cap, cur, rfl, hg, (hb g rfl).trans hh, h1, h2, h3, h4⟩⟩

def upd {α : Type} (f : Nat → α) (j : Nat) (x : α) : Nat → α := fun i => if i = j then x else f i
theorem upd_same {α : Type} (f : Nat → α) (j : Nat) (x : α) : upd f j x j = x := by simp [upd]
theorem upd_other {α : Type} (f : Nat → α) {i j : Nat} (x : α) (h : i ≠ j) : upd f j x i = f i := by simp [upd, h]

/-- Entry j has got one ID more. -/
theorem TabAt.entry {n₀ : Nat} {W W' : World} {T E S : Nat} {V U : Nat → Value} {o : Nat} {L : Nat → List Nat} {M : Nat → Nat} (h : TabAt n₀ W T E S V U o L M) {j : Nat} (hj : j < 8) {v' : Value} {k : Nat} (hk : k < 6)
    (hfr : ∀ b ob, W.heap[b]? = some ob → (V j).ownBlock ≠ some b → b ≠ E → W'.heap[b]? = some ob)
    (hE : ∀ ce : Array Value, W.heap[E]? = some (.cells ce 62 (0, 0)) → W'.heap[E]? = some (.cells (ce.setIfInBounds j v') 62 (0, 0)))
    (hr : IdRow n₀ W' v' (L j ++ [k])) (hg : ∀ g, v'.ownBlock = some g → (V j).ownBlock = some g ∨ W.heap[g]? = none) :
    TabAt n₀ W' T E S (upd V j v') U o (upd L j (L j ++ [k])) M := by
  obtain ⟨ce, e1, e2, e3⟩ := h.hE
  obtain ⟨cs, s1, s2, s3⟩ := h.hS
  have tagV : ∀ i, i < 8 → ∀ g, (V i).ownBlock = some g → ∃ cur, W.heap[g]? = some (.cells cur 36 (0, 0)) := fun i hi g hg => row_tag (h.rV i hi) hg
  have tagU : ∀ i, i < 8 → ∀ g, (U i).ownBlock = some g → ∃ cur, W.heap[g]? = some (.cells cur 48 (0, 0)) := fun i hi g hg => let ⟨_, hx⟩ := h.rU i hi; row_tag hx hg
  have hT' : W'.heap[T]? = _ := hfr T _ h.hT (fun e => by obtain ⟨c, hc⟩ := tagV j hj _ e; rw [h.hT] at hc; cases hc) (fun e => by subst e; rw [h.hT] at e1; cases e1)
  have hS' : W'.heap[S]? = _ := hfr S _ s1 (fun e => by obtain ⟨c, hc⟩ := tagV j hj _ e; rw [s1] at hc; cases hc) (fun e => by subst e; rw [s1] at e1; cases e1)
  refine ⟨hT', ⟨_, hE ce e1, by simpa using e2, fun i hi => ?_⟩, ⟨cs, hS', s2, s3⟩, fun i hi => ?_, fun i hi => ?_, fun a b ha hb hab g hga => ?_, h.dU, h.nT, h.nE, h.nS, fun i hi x hx => ?_⟩
  · by_cases e : i = j
    · subst e; rw [upd_same]; simp [e2, hi]
    · rw [upd_other _ _ e, Array.getElem?_setIfInBounds_ne (by omega)]; exact e3 i hi
  · by_cases e : i = j
    · subst e; rw [upd_same, upd_same]; exact hr
    · rw [upd_other _ _ e, upd_other _ _ e]
      refine row_other (h.rV i hi) fun g hg => ?_
      obtain ⟨c, hc⟩ := tagV i hi g hg
      rw [hc]
      exact hfr g _ hc (h.dV i j hi hj e g hg) (fun e' => by subst e'; rw [hc] at e1; cases e1)
  · obtain ⟨xs, hx⟩ := h.rU i hi
    refine ⟨xs, row_other hx fun g hg => ?_⟩
    obtain ⟨c, hc⟩ := tagU i hi g hg
    rw [hc]
    exact hfr g _ hc (fun e => by obtain ⟨c', hc'⟩ := tagV j hj g e; rw [hc] at hc'; cases hc') (fun e' => by subst e'; rw [hc] at e1; cases e1)
  · by_cases ea : a = j
    · subst ea
      rw [upd_same] at hga
      rw [upd_other _ _ (fun e => hab e.symm)]
      intro hgb
      rcases hg g hga with h1 | h1
      · exact h.dV b a hb ha (fun e => hab e.symm) g hgb h1
      · obtain ⟨c, hc⟩ := tagV b hb g hgb; rw [hc] at h1; cases h1
    · rw [upd_other _ _ ea] at hga
      by_cases eb : b = j
      · subst eb
        rw [upd_same]
        intro hgb
        rcases hg g hgb with h1 | h1
        · exact h.dV a b ha hb hab g hga h1
        · obtain ⟨c, hc⟩ := tagV a ha g hga; rw [hc] at h1; cases h1
      · rw [upd_other _ _ eb]; exact h.dV a b ha hb hab g hga
  · by_cases e : i = j
    · subst e; rw [upd_same] at hx
      rcases List.mem_append.1 hx with h1 | h1
      · exact h.six i hi x h1
      · simp at h1; omega
    · rw [upd_other _ _ e] at hx; exact h.six i hi x hx

/-- Entry j's states have got one more. -/
theorem TabAt.state {n₀ : Nat} {W W' : World} {T E S : Nat} {V U : Nat → Value} {o : Nat} {L : Nat → List Nat} {M : Nat → Nat} (h : TabAt n₀ W T E S V U o L M) {j : Nat} (hj : j < 8) {v' : Value} {xs' : List Value}
    (hfr : ∀ b ob, W.heap[b]? = some ob → (U j).ownBlock ≠ some b → b ≠ S → W'.heap[b]? = some ob)
    (hS : ∀ ce : Array Value, W.heap[S]? = some (.cells ce 80 (0, 0)) → W'.heap[S]? = some (.cells (ce.setIfInBounds j v') 80 (0, 0)))
    (hr : W'.ownsRow n₀ 48 1 v' (M j + 1) xs') (hg : ∀ g, v'.ownBlock = some g → (U j).ownBlock = some g ∨ W.heap[g]? = none) :
    TabAt n₀ W' T E S V (upd U j v') o L (upd M j (M j + 1)) := by
  obtain ⟨ce, e1, e2, e3⟩ := h.hE
  obtain ⟨cs, s1, s2, s3⟩ := h.hS
  have tagV : ∀ i, i < 8 → ∀ g, (V i).ownBlock = some g → ∃ cur, W.heap[g]? = some (.cells cur 36 (0, 0)) := fun i hi g hg => row_tag (h.rV i hi) hg
  have tagU : ∀ i, i < 8 → ∀ g, (U i).ownBlock = some g → ∃ cur, W.heap[g]? = some (.cells cur 48 (0, 0)) := fun i hi g hg => let ⟨_, hx⟩ := h.rU i hi; row_tag hx hg
  have hT' : W'.heap[T]? = _ := hfr T _ h.hT (fun e => by obtain ⟨c, hc⟩ := tagU j hj _ e; rw [h.hT] at hc; cases hc) (fun e => by subst e; rw [h.hT] at s1; cases s1)
  have hE' : W'.heap[E]? = _ := hfr E _ e1 (fun e => by obtain ⟨c, hc⟩ := tagU j hj _ e; rw [e1] at hc; cases hc) (fun e => by subst e; rw [s1] at e1; cases e1)
  refine ⟨hT', ⟨ce, hE', e2, e3⟩, ⟨_, hS cs s1, by simpa using s2, fun i hi => ?_⟩, fun i hi => ?_, fun i hi => ?_, h.dV, fun a b ha hb hab g hga => ?_, h.nT, h.nE, h.nS, h.six⟩
  · by_cases e : i = j
    · subst e; rw [upd_same]; simp [s2, hi]
    · rw [upd_other _ _ e, Array.getElem?_setIfInBounds_ne (by omega)]; exact s3 i hi
  · refine row_other (h.rV i hi) fun g hg => ?_
    obtain ⟨c, hc⟩ := tagV i hi g hg
    rw [hc]
    exact hfr g _ hc (fun e => by obtain ⟨c', hc'⟩ := tagU j hj g e; rw [hc] at hc'; cases hc') (fun e' => by subst e'; rw [hc] at s1; cases s1)
  · by_cases e : i = j
    · subst e; rw [upd_same, upd_same]; exact ⟨xs', hr⟩
    · rw [upd_other _ _ e, upd_other _ _ e]
      obtain ⟨xs, hx⟩ := h.rU i hi
      refine ⟨xs, row_other hx fun g hg => ?_⟩
      obtain ⟨c, hc⟩ := tagU i hi g hg
      rw [hc]
      exact hfr g _ hc (h.dU i j hi hj e g hg) (fun e' => by subst e'; rw [hc] at s1; cases s1)
  · by_cases ea : a = j
    · subst ea
      rw [upd_same] at hga
      rw [upd_other _ _ (fun e => hab e.symm)]
      intro hgb
      rcases hg g hga with h1 | h1
      · exact h.dU b a hb ha (fun e => hab e.symm) g hgb h1
      · obtain ⟨c, hc⟩ := tagU b hb g hgb; rw [hc] at h1; cases h1
    · rw [upd_other _ _ ea] at hga
      by_cases eb : b = j
      · subst eb
        rw [upd_same]
        intro hgb
        rcases hg g hgb with h1 | h1
        · exact h.dU a b ha hb hab g hga h1
        · obtain ⟨c, hc⟩ := tagU a ha g hga; rw [hc] at h1; cases h1
      · rw [upd_other _ _ eb]; exact h.dU a b ha hb hab g hga
end Go.Proofs.Ybulkckim
