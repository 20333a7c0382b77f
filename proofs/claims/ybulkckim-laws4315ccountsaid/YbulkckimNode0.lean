import Derived.Test.YbulkckimEnough
import Derived.Laws.EntriesVeiled
import Derived.Laws.Rows
import Derived.Laws.Tables
import Derived.Deep.DeepCutAuto
import Derived.Deep.RegionWith
import Derived.Deep.RegionHeld3
namespace Go.Proofs.Ybulkckim
open Go.RowKit

theorem pushes_heap (w : World) (os : List Obj) : (os.foldl World.alloc w).heap = w.heap ++ os.toArray := by
  induction os generalizing w with
  | nil => simp
  | cons o os ih =>
    rw [List.foldl_cons, ih]
    show (w.heap.push o) ++ os.toArray = _
    simp
theorem pushes_at (w : World) (os : List Obj) (i : Nat) (o : Obj) (h : os[i]? = some o) : (os.foldl World.alloc w).heap[w.heap.size + i]? = some o := by
  rw [pushes_heap, Array.getElem?_append_right (by omega)]
  simpa using h
theorem pushes_below (w : World) (os : List Obj) : Below w.heap.size w (os.foldl World.alloc w) := by
  have h : ∀ (os : List Obj) (v : World), Below w.heap.size w v → Below w.heap.size w (os.foldl World.alloc v) := fun os => by
    induction os with
    | nil => exact fun v h => h
    | cons o os ih => exact fun v h => ih _ (h.alloc h.size o)
  exact h os w (Below.refl _ _)


set_option maxRecDepth 100000 in
theorem peersKeptGo (w : World) : Calls Yba.prog 34 #[.agg #[.int .i64 4, .int .i64 2, .int .i64 16]] w fun e w' => e = .returned (.int .i64 128) ∧ Below w.heap.size w w' := by
  go_enter Yba.func34, Yba.ntmps34
  go_wp2_with fail
  go_ret
  exact ⟨rfl, (Below.refl _ _).alloc (Nat.le_refl _) _⟩

set_option maxRecDepth 100000 in
theorem paramsGo {n₀ : Nat} {w : World} {T E S : Nat} {V U : Nat → Value} {o : Nat} {L : Nat → List Nat} {M : Nat → Nat} (h : TabAt n₀ w T E S V U o L M) :
    Calls Yba.prog 35 #[.pointer (some ⟨T, 0, none⟩)] w fun e w' => e = .returned (.agg #[.int .i64 4, .int .i64 2, .int .i64 16]) ∧ Below w.heap.size w w' := by
  obtain ⟨c0, c1, c2, c3, c4, c5⟩ := h.cells
  have lT := World.block_lt_of_cell? w _ c1
  have d1 : ∀ ob, (w.alloc ob).cell? ⟨T, 1, none⟩ = some (.int .i64 4) := fun ob => (World.cell?_of_block (w := w) (w' := w.alloc ob) (a := ⟨T, 1, none⟩) (Below.heap_alloc w ob T lT)).trans c1
  have d2 : ∀ ob, (w.alloc ob).cell? ⟨T, 2, none⟩ = some (.int .i64 2) := fun ob => (World.cell?_of_block (w := w) (w' := w.alloc ob) (a := ⟨T, 2, none⟩) (Below.heap_alloc w ob T lT)).trans c2
  have d3 : ∀ ob, (w.alloc ob).cell? ⟨T, 3, none⟩ = some (.int .i64 16) := fun ob => (World.cell?_of_block (w := w) (w' := w.alloc ob) (a := ⟨T, 3, none⟩) (Below.heap_alloc w ob T lT)).trans c3
  clear h c0 c1 c2 c3 c4 c5
  go_enter Yba.func35, Yba.ntmps35
  go_wp2_with fail
  refine bodyPost_ret (results_cell_row rfl _ _ w.heap.size 40 _ (0, 0) _ rfl (heap_alloc_new _ _) Yba.underlying40 rfl (by kernel_rfl)) rfl ?_
  exact ⟨rfl, (Below.refl _ _).alloc (Nat.le_refl _) _⟩

set_option maxRecDepth 100000 in
theorem newRec (w : World) (cfg : Value) (hc : cfg = .agg #[.nilFunc, .bool false, .nilFunc, .nilFunc, .int .i64 0, .nilFunc, .nilFunc, .nilFunc, .nilFunc, .int .i64 0, .pointer none]) :
    Calls Yba.prog 33 #[cfg] w fun e w' => ∃ fm bq gu wl, e = .returned (.agg #[.nilFunc, .nilFunc, .int .i64 0, .map (some fm), .slice none 0 0, .map (some bq), .int .u64 0, .pointer none, .map (some gu), .map (some wl), .slice none 0 0, .slice none 0 0, .slice none 0 0]) ∧
      w'.heap[fm]? = some (.map #[] 0) ∧ w.heap.size ≤ fm ∧ Below w.heap.size w w' := by
  subst hc
  have hmm := @run_makeMap Yba.prog
  go_enter Yba.func33, Yba.ntmps33
  go_wp2_with fail
  generalize hW : World.alloc (World.alloc _ _) _ = W
  have hW' : ([.cells #[.nilFunc, .bool false, .nilFunc, .nilFunc, .int .i64 0, .nilFunc, .nilFunc, .nilFunc, .nilFunc, .int .i64 0, .pointer none] 59,
    .cells #[.nilFunc, .nilFunc, .int .i64 0, .map (some (w.heap.size + 2)), .slice none 0 0, .map (some (w.heap.size + 3)), .int .u64 0, .pointer none, .map (some (w.heap.size + 4)), .map (some (w.heap.size + 5)), .slice none 0 0, .slice none 0 0, .slice none 0 0] 107,
    .map #[] 0, .map #[] 0, .map #[] 0, .map #[] 0] : List Obj).foldl World.alloc w = W := hW
  clear hW
  have h1 : W.heap[w.heap.size + 1]? = some (.cells #[.nilFunc, .nilFunc, .int .i64 0, .map (some (w.heap.size + 2)), .slice none 0 0, .map (some (w.heap.size + 3)), .int .u64 0, .pointer none, .map (some (w.heap.size + 4)), .map (some (w.heap.size + 5)), .slice none 0 0, .slice none 0 0, .slice none 0 0] 107 (0, 0)) := by rw [← hW']; exact pushes_at w _ 1 _ rfl
  have h2 : W.heap[w.heap.size + 2]? = some (.map #[] 0) := by rw [← hW']; exact pushes_at w _ 2 _ rfl
  have hb : Below w.heap.size w W := by rw [← hW']; exact pushes_below w _
  clear hW'
  refine bodyPost_ret (results_cell_row rfl _ _ (w.heap.size + 1) 107 _ (0, 0) _ rfl h1 Yba.underlying107 rfl (by kernel_rfl)) rfl ?_
  exact ⟨w.heap.size + 2, _, _, _, rfl, h2, by omega, hb⟩

def cfg0 : Value := .agg #[.nilFunc, .bool false, .nilFunc, .nilFunc, .int .i64 0, .nilFunc, .nilFunc, .nilFunc, .nilFunc, .int .i64 0, .pointer none]

/-- A new node's cells. -/
def nodeCells (T mp fm bq gu wl : Nat) : Array Value := #[.pointer (some ⟨T, 0, none⟩), .int .u8 4, .nilFunc, .nilFunc, .nilFunc, .nilFunc, .nilFunc, .pointer none, .map (some mp), .int .u64 0, .int .u64 0, .int .i64 128, .slice none 0 0, .string ⟨#[]⟩, .bool false, .int .i64 0, .pointer none, .slice none 0 0, .int .i64 0, .map none, .slice none 0 0, .map none, .slice none 0 0, .int .i64 0, .map none, .slice none 0 0, .slice none 0 0, .map none, .slice none 0 0, .int .i64 0, .slice none 0 0, .map none, .slice none 0 0, .int .i64 0, .slice none 0 0, .map none, .slice none 0 0, .int .i64 0, .slice none 0 0, .map none, .slice none 0 0, .int .i64 0, .slice none 0 0, .map none, .slice none 0 0, .int .i64 0, .int .i64 0, .bool false, .int .i64 0, .int .i64 0, .slice none 0 0, .map none, .slice none 0 0, .int .i64 0, .map none, .nilFunc, .nilFunc, .int .i64 0, .map (some fm), .slice none 0 0, .map (some bq), .int .u64 0, .pointer none, .map (some gu), .map (some wl), .slice none 0 0, .slice none 0 0, .slice none 0 0, .slice none 0 0]

theorem build110 (T mp fm bq gu wl : Nat) (W : World) : (Instr.build 110 #[(0, .pointer (some ⟨T, 0, none⟩)), (1, .int .u8 4), (2, .nilFunc), (3, .nilFunc), (4, .nilFunc), (5, .nilFunc), (6, .nilFunc), (8, .map (some mp)), (33, .agg #[.nilFunc, .nilFunc, .int .i64 0, .map (some fm), .slice none 0 0, .map (some bq), .int .u64 0, .pointer none, .map (some gu), .map (some wl), .slice none 0 0, .slice none 0 0, .slice none 0 0]), (11, .int .i64 128), (28, .int .i64 0)]).run Yba.prog W = .ok (.agg (nodeCells T mp fm bq gu wl)) W :=
  run_build W 110 _ _ (by kernel_rfl)

/-- The configuration's box lies as it was laid. -/
theorem keepCfg {w0 x y : World} {Bc : Nat} (h0 : w0.heap[Bc]? = some (.cells #[.nilFunc, .bool false, .nilFunc, .nilFunc, .int .i64 0, .nilFunc, .nilFunc, .nilFunc, .nilFunc, .int .i64 0, .pointer none] 59 (0, 0))) (hB : Below w0.heap.size w0 x) (hb : Below x.heap.size x y) :
    y.cell? ⟨Bc, 0, none⟩ = some (.nilFunc) ∧ y.cell? ⟨Bc, 1, none⟩ = some (.bool false) ∧ y.cell? ⟨Bc, 2, none⟩ = some (.nilFunc) ∧ y.cell? ⟨Bc, 3, none⟩ = some (.nilFunc) ∧ y.cell? ⟨Bc, 4, none⟩ = some (.int .i64 0) ∧ y.cell? ⟨Bc, 5, none⟩ = some (.nilFunc) ∧ y.cell? ⟨Bc, 6, none⟩ = some (.nilFunc) ∧ y.cell? ⟨Bc, 7, none⟩ = some (.nilFunc) ∧ y.cell? ⟨Bc, 8, none⟩ = some (.nilFunc) ∧ y.cell? ⟨Bc, 9, none⟩ = some (.int .i64 0) ∧ y.cell? ⟨Bc, 10, none⟩ = some (.pointer none) ∧ Below w0.heap.size w0 y := by
  have hy := hB.trans (hb.mono hB.size)
  have hblk : y.heap[Bc]? = some (.cells #[.nilFunc, .bool false, .nilFunc, .nilFunc, .int .i64 0, .nilFunc, .nilFunc, .nilFunc, .nilFunc, .int .i64 0, .pointer none] 59 (0, 0)) := (hy.block Bc (Array.getElem?_eq_some_iff.1 h0).1).trans h0
  refine ⟨?_, ?_, ?_, ?_, ?_, ?_, ?_, ?_, ?_, ?_, ?_, hy⟩ <;> simp [World.cell?, hblk]

structure NewNode (w w' : World) (T N mp fm bq gu wl : Nat) : Prop where
  node : w'.heap[N]? = some (.cells (nodeCells T mp fm bq gu wl) 110 (0, 0))
  peers : w'.heap[mp]? = some (.map #[] 0)
  failed : w'.heap[fm]? = some (.map #[] 0)
  lmp : w.heap.size ≤ mp
  lfm : w.heap.size ≤ fm
  lN : w.heap.size ≤ N
  ne : mp ≠ fm
  below : Below w.heap.size w w'

theorem obj_keep' {W W' : World} {b : Nat} {ob : Obj} (h : W.heap[b]? = some ob) (hb : Below W.heap.size W W') : W'.heap[b]? = some ob :=
  (hb.block b (Array.getElem?_eq_some_iff.1 h).1).trans h
theorem obj_alloc {W : World} {b : Nat} {ob : Obj} (o : Obj) (h : W.heap[b]? = some ob) : (W.alloc o).heap[b]? = some ob :=
  (Below.heap_alloc W o b (Array.getElem?_eq_some_iff.1 h).1).trans h

attribute [-go_sem] Instr.build
attribute [local go_sem] build110

set_option maxRecDepth 100000 in
set_option maxHeartbeats 4000000 in
theorem newNodeGo {n₀ : Nat} {w : World} {T E S : Nat} {V U : Nat → Value} {o : Nat} {L : Nat → List Nat} {M : Nat → Nat} (h : TabAt n₀ w T E S V U o L M) :
    Calls Yba.prog 19 #[.pointer (some ⟨T, 0, none⟩), .int .u8 4, cfg0] w fun e w' => ∃ N mp fm bq gu wl, e = .returned (.pointer (some ⟨N, 0, none⟩)) ∧ NewNode w w' T N mp fm bq gu wl := by
  have hmm := @run_makeMap Yba.prog
  have HP : Hid _ := fun (W : World) (hb : Below w.heap.size w W) => paramsGo (h.keep hb)
  clear h
  unfold cfg0
  go_enter Yba.func19, Yba.ntmps19
  have HR : Hid _ := fun (W : World) => newRec W _ rfl
  have HK : Hid _ := fun (W : World) => peersKeptGo W
  go_upto_region 1 with fail
  have h0 := heap_alloc_new w (.cells #[.nilFunc, .bool false, .nilFunc, .nilFunc, .int .i64 0, .nilFunc, .nilFunc, .nilFunc, .nilFunc, .int .i64 0, .pointer none] 59)
  have hb0 : Below w.heap.size w (w.alloc (.cells #[.nilFunc, .bool false, .nilFunc, .nilFunc, .int .i64 0, .nilFunc, .nilFunc, .nilFunc, .nilFunc, .int .i64 0, .pointer none] 59)) := (Below.refl _ _).alloc (Nat.le_refl _) _
  have hs0 : (w.alloc (.cells #[.nilFunc, .bool false, .nilFunc, .nilFunc, .int .i64 0, .nilFunc, .nilFunc, .nilFunc, .nilFunc, .int .i64 0, .pointer none] 59)).heap.size = w.heap.size + 1 := by simp
  generalize hBc : w.heap.size = Bc at h0 ⊢
  generalize w.alloc (.cells #[.nilFunc, .bool false, .nilFunc, .nilFunc, .int .i64 0, .nilFunc, .nilFunc, .nilFunc, .nilFunc, .int .i64 0, .pointer none] 59) = w0 at *
  have HB0 : Hid _ := hb0
  have H0 : Hid _ := h0
  have HBc : Hid _ := And.intro hBc hs0
  obtain ⟨k0, k1, k2, k3, k4, k5, k6, k7, k8, k9, k10, k11⟩ := keepCfg h0 (Below.refl _ _) (Below.refl _ _)
  clear h0 hb0 hs0 hBc
  go_cut [7] (fun v wx => ∃ N mp fm bq gu wl, v = .pointer (some ⟨N, 0, none⟩) ∧ NewNode w wx T N mp fm bq gu wl ∧ wx.cell? ⟨Bc, 1, none⟩ = some (.bool false))
  case first =>
   go_region_held3 (fun w' => w'.cell? ⟨Bc, 0, none⟩ = some (.nilFunc) ∧ w'.cell? ⟨Bc, 1, none⟩ = some (.bool false) ∧ w'.cell? ⟨Bc, 2, none⟩ = some (.nilFunc) ∧ w'.cell? ⟨Bc, 3, none⟩ = some (.nilFunc) ∧ w'.cell? ⟨Bc, 4, none⟩ = some (.int .i64 0) ∧ w'.cell? ⟨Bc, 5, none⟩ = some (.nilFunc) ∧ w'.cell? ⟨Bc, 6, none⟩ = some (.nilFunc) ∧ w'.cell? ⟨Bc, 7, none⟩ = some (.nilFunc) ∧ w'.cell? ⟨Bc, 8, none⟩ = some (.nilFunc) ∧ w'.cell? ⟨Bc, 9, none⟩ = some (.int .i64 0) ∧ w'.cell? ⟨Bc, 10, none⟩ = some (.pointer none) ∧ Below w0.heap.size w0 w')
    ((go_split_ands
      first
      | exact keepCfg H0.out (by assumption) hb34
      | exact keepCfg H0.out (by assumption) hb35
      | exact keepCfg H0.out (by assumption) hb33
      | exact keepCfg H0.out (Below.drew (by assumption)) hb34
      | exact keepCfg H0.out (Below.drew (by assumption)) hb35
      | exact keepCfg H0.out (Below.drew (by assumption)) hb33
      | exact keepCfg H0.out (by assumption) ((Below.refl _ _).alloc (Nat.le_refl _) _)
      | exact keepCfg H0.out (by assumption) (((Below.refl _ _).alloc (Nat.le_refl _) _).drew)
      | exact keepCfg H0.out (Below.drew (by assumption)) ((Below.refl _ _).alloc (Nat.le_refl _) _)
      | exact keepCfg H0.out (Below.drew (by assumption)) (Below.refl _ _)
      | exact keepCfg H0.out (by assumption) (Below.refl _ _)))
    (first
      | (go_at_call 33; refine (HR.out _).mono ?_; rintro e w33 ⟨fm, bq, gu, wl, rfl, f33, g33, hb33⟩)
      | (go_at_call 35; go_split_ands; refine (HP.out _ (HB0.out.trans (Below.mono (by assumption) HB0.out.size))).mono ?_; rintro e w35 ⟨rfl, hb35⟩)
      | (go_at_call 34; refine (HK.out _).mono ?_; rintro e w34 ⟨rfl, hb34⟩))
   all_goals
    go_split_ands
    have s33 := hb33.size
    have s35 := hb35.size
    have s34 := hb34.size
    have l33 : fm < w33.heap.size := (Array.getElem?_eq_some_iff.1 f33).1
    have hm0 : (w0.alloc (.map #[] 0)).heap[w0.heap.size]? = some (.map #[] 0) := heap_alloc_new _ _
    have hm3 : (w33.alloc (.map #[] 0)).heap[w33.heap.size]? = some (.map #[] 0) := heap_alloc_new _ _
    have hm5 : (w35.alloc (.map #[] 0)).heap[w35.heap.size]? = some (.map #[] 0) := heap_alloc_new _ _
    have hm4 : (w34.alloc (.map #[] 0)).heap[w34.heap.size]? = some (.map #[] 0) := heap_alloc_new _ _
    obtain ⟨hBc, hs0⟩ := HBc.out
    have HX : Hid _ := And.intro s33 (And.intro s35 (And.intro s34 (And.intro g33 (And.intro l33 (And.intro hm0 (And.intro hm3 (And.intro hm5 (And.intro hm4 (And.intro hBc hs0)))))))))
    clear s33 s35 s34 g33 l33 hm0 hm3 hm5 hm4 hBc hs0
    go_wp2_with fail
    go_meet
    case rel =>
      obtain ⟨s33, s35, s34, g33, l33, hm0, hm3, hm5, hm4, hBc, hs0⟩ := HX.out
      have e1 : ∀ x : World, x.drew.heap.size = x.heap.size := fun _ => rfl
      simp only [e1, World.size_alloc] at s33 s35 s34 g33
      have hbw : ∀ y, Below w0.heap.size w0 y → Below w.heap.size w y := fun y hy => HB0.out.trans (hy.mono HB0.out.size)
      refine ⟨_, _, fm, bq, gu, wl, rfl, ⟨by first | exact heap_alloc_new _ _ | exact heap_alloc2_new _ _ _, ?_, ?_, by omega, by omega, by omega, by omega, ?_⟩, by assumption⟩
      · first | exact obj_alloc _ (obj_keep' (obj_keep' (obj_keep' (W := (w0.alloc (.map #[] 0)).drew) hm0 hb33) hb35) hb34) | exact obj_alloc _ (obj_keep' (obj_keep' hm3 hb35) hb34) | exact obj_alloc _ (obj_keep' hm5 hb34) | exact obj_alloc _ hm4
      · first | exact obj_alloc _ (obj_keep' (obj_keep' f33 hb35) hb34) | exact obj_alloc _ (obj_keep' (obj_keep' (obj_alloc _ f33) hb35) hb34) | exact obj_alloc _ (obj_keep' (obj_alloc _ (obj_keep' f33 hb35)) hb34) | exact obj_alloc _ (obj_alloc _ (obj_keep' (obj_keep' f33 hb35) hb34))
      · exact hbw _ (by assumption)
  case rest =>
    obtain ⟨N, mp, fm, bq, gu, wl, rfl, hn, hc⟩ := hcut
    have HN : Hid _ := hn
    clear hn k0 k1 k2 k3 k4 k5 k6 k7 k8 k9 k10 k11
    go_wp2_with fail
    go_ret
    exact ⟨N, mp, fm, bq, gu, wl, rfl, HN.out⟩
end Go.Proofs.Ybulkckim
