import Derived.Test.YbulkckhyProg
import Derived.WalkKit
import Derived.WalkLawsBesides
import Derived.Deep.OwnRows
import Derived.Deep.LoopGhost
import Derived.Deep.RegionLaw
import Derived.Outline
namespace Go.Proofs.Ybulkckhy
open Go.RowKit

theorem info26 : (Yba.prog.info? 26).map (fun i => (i.zero, i.size, i.bytes)) = some (some (.agg #[.string ⟨#[]⟩, .int .i64 0]), 2, 24) := by kernel_rfl
theorem info32 : (Yba.prog.info? 32).map (fun i => (i.zero, i.size, i.bytes)) = some (some (.agg #[.string ⟨#[]⟩, .int .i64 0, .slice none 0 0, .int .i64 0, .pointer none]), 5, 64) := by kernel_rfl

/-- What 'make([]holding, 0, m)' lays. -/
def made26 (m : Nat) : Array Value := madeCells #[.string ⟨#[]⟩, .int .i64 0] (m * 2)
theorem size_made26 (m : Nat) : (made26 m).size = m * 2 := size_madeCells _ _
theorem make26 (m : Nat) (h : m ≤ 4096) (w : World) : (Instr.makeSlice 35 (.int .i64 0) (.int .i64 (m : Int))).run Yba.prog w =
    .ok (.slice (some ⟨w.heap.size, 0, none⟩) 0 m) (w.alloc (.cells (made26 m) 26)) := by
  obtain ⟨i0, hi, hz0, hz1, hz2⟩ := info_parts info26
  have := run_make (P := Yba.prog) w 35 26 i0 _ Yba.underlying35 hi hz0 .i64 .i64 0 m (by omega) (by omega) (by rw [hz2]; omega) (by omega)
  rw [this, hz1]
  rfl

theorem cells2 (w : World) (x y : Value) : ∀ j u, [x, y][j]? = some u → (w.alloc (.cells #[x, y] 26)).drew.cell? ((⟨w.heap.size, 0, none⟩ : Addr).add j) = some u := by
  intro j u hj
  have e : (w.alloc (.cells #[x, y] 26)).drew.cell? ((⟨w.heap.size, 0, none⟩ : Addr).add j) = #[x, y][j]? := by
    rw [Addr.add_lit, Nat.zero_add]
    exact World.cell?_alloc_at _ _ _ _ rfl
  rw [e]; simpa using hj

/-- WHAT HOLDS AT THE LOOP's HEAD: the register lies at block N, its fences at N + 1: k of them are laid. -/
structure RegInv (w wr : World) (b n m k : Nat) (A : Nat → ByteArray) (C : Nat → Int) : Prop where
  below : Below w.heap.size w wr
  size : w.heap.size + 2 ≤ wr.heap.size
  reg : wr.heap[w.heap.size]? = some (.cells #[.slice (some ⟨b, 0, none⟩) n n, .slice (some ⟨w.heap.size + 1, 0, none⟩) k m, .slice none 0 0] 38 (0, 0))
  fen : ∃ cur : Array Value, wr.heap[w.heap.size + 1]? = some (.cells cur 26 (0, 0)) ∧ cur.size = m * 2 ∧
    ∀ j, j < k → cur[j * 2]? = some (.string (A (64 * j))) ∧ cur[j * 2 + 1]? = some (.int .i64 (C (64 * j)))

theorem RegInv.start (w : World) (b n m : Nat) (A : Nat → ByteArray) (C : Nat → Int) :
    RegInv w ((w.alloc (.cells #[.slice (some ⟨b, 0, none⟩) n n, .slice (some ⟨w.heap.size + 1, 0, none⟩) 0 m, .slice none 0 0] 38)).alloc (.cells (made26 m) 26)) b n m 0 A C := by
  refine ⟨((Below.refl _ _).alloc (Nat.le_refl _) _).alloc (by simp) _, by simp, ?_, ⟨made26 m, ?_, size_made26 m, fun j hj => by omega⟩⟩
  · rw [Go.heap_alloc_old (w.alloc _) _ (by simp)]; exact heap_alloc_new _ _
  · have := heap_alloc_new (w.alloc (.cells #[.slice (some ⟨b, 0, none⟩) n n, .slice (some ⟨w.heap.size + 1, 0, none⟩) 0 m, .slice none 0 0] 38)) (.cells (made26 m) 26)
    simpa using this

theorem RegInv.spare {w wr : World} {b n m k : Nat} {A : Nat → ByteArray} {C : Nat → Int} (h : RegInv w wr b n m k A C) (hk : k < m) (o : Obj) (x y : Value) :
    ∀ j, j < [x, y].length → ((wr.alloc o).drew.cell? ⟨w.heap.size + 1, 0 + k * 2 + j, none⟩).isSome = true ∧ (wr.alloc o).drew.frozen? ⟨w.heap.size + 1, 0 + k * 2 + j, none⟩ = false := by
  intro j hj
  obtain ⟨cur, hb, hs, _⟩ := h.fen
  have hsz := h.size
  have hj2 : j < 2 := by simpa using hj
  have e1 : (wr.alloc o).drew.cell? ⟨w.heap.size + 1, 0 + k * 2 + j, none⟩ = wr.cell? ⟨w.heap.size + 1, 0 + k * 2 + j, none⟩ := World.cell?_alloc_past _ _ _ (by omega)
  have e2 : (wr.alloc o).drew.frozen? ⟨w.heap.size + 1, 0 + k * 2 + j, none⟩ = wr.frozen? ⟨w.heap.size + 1, 0 + k * 2 + j, none⟩ := World.frozen?_alloc_past _ _ _ (by omega)
  rw [e1, e2]
  simp [World.cell?, World.frozen?, hb]
  omega

/-- What the round leaves: two cells more in the fences' row, the register's second field turned. -/
def stepWorld (wr : World) (N k m : Nat) (x y : Value) : World :=
  ((wr.alloc (.cells #[x, y] 26)).drew.setCells (N + 1) (k * 2) [x, y]).setCell ⟨N, 1, none⟩ (.slice (some ⟨N + 1, 0, none⟩) (k + 1) m)

theorem RegInv.field {w wr : World} {b n m k : Nat} {A : Nat → ByteArray} {C : Nat → Int} (h : RegInv w wr b n m k A C) (x y : Value) :
    ((wr.alloc (.cells #[x, y] 26)).drew.setCells (w.heap.size + 1) (k * 2) [x, y]).heap[w.heap.size]? =
      some (.cells #[.slice (some ⟨b, 0, none⟩) n n, .slice (some ⟨w.heap.size + 1, 0, none⟩) k m, .slice none 0 0] 38 (0, 0)) := by
  have hsz := h.size
  simp only [World.setCells]
  rw [Deep.blk_setCell_other _ _ _ _ (by simp), Deep.blk_setCell_other _ _ _ _ (by simp)]
  show (wr.alloc _).heap[w.heap.size]? = _
  rw [Go.heap_alloc_old _ _ (by omega)]
  exact h.reg

/-- A store into a row of cells, as the block. -/
theorem blk_setCell_row {w : World} {b : Nat} {c : Array Value} {t : TypeId} (h : w.heap[b]? = some (.cells c t (0, 0))) (i : Nat) (v : Value) :
    (w.setCell ⟨b, i, none⟩ v).heap[b]? = some (.cells (c.setIfInBounds i v) t (0, 0)) := by
  simp [World.setCell, Array.getElem?_modify, h]

theorem RegInv.step {w wr : World} {b n m k j : Nat} {A : Nat → ByteArray} {C : Nat → Int} (h : RegInv w wr b n m k A C) (hk : k < m) (hj : j = 64 * k) :
    RegInv w (stepWorld wr w.heap.size k m (.string (A j)) (.int .i64 (C j))) b n m (k + 1) A C := by
  have hsz := h.size
  have hfield := h.field (.string (A j)) (.int .i64 (C j))
  obtain ⟨cur, hcur, hs, hc⟩ := h.fen
  unfold stepWorld
  refine ⟨?_, ?_, ?_, ⟨(cur.setIfInBounds (k * 2) (.string (A j))).setIfInBounds (k * 2 + 1) (.int .i64 (C j)), ?_, by simpa using hs, ?_⟩⟩
  · simp only [World.setCells]
    exact ((((h.below.alloc (by omega) _).drew).setCell (by simp) _).setCell (by simp) _).setCell (by simp) _
  · simp [World.setCells]; omega
  · rw [blk_setCell_row hfield]; rfl
  · rw [Deep.blk_setCell_other _ _ _ _ (by simp)]
    simp only [World.setCells]
    refine blk_setCell_row (blk_setCell_row ?_ _ _) _ _
    show (wr.alloc _).heap[w.heap.size + 1]? = _
    rw [Go.heap_alloc_old _ _ (by omega)]
    exact hcur
  · intro i hi
    by_cases e : i = k
    · subst e; subst hj
      simp [Array.getElem?_setIfInBounds, hs]; omega
    · have hik : i < k := by omega
      have := hc i hik
      rw [Array.getElem?_setIfInBounds_ne (by omega), Array.getElem?_setIfInBounds_ne (by omega), Array.getElem?_setIfInBounds_ne (by omega), Array.getElem?_setIfInBounds_ne (by omega)]
      exact this

set_option maxHeartbeats 400000 in
theorem newReg (b n : Nat) (w : World) (A : Nat → ByteArray) (C : Nat → Int) (hn : n ≤ 4096) (hb : b < w.heap.size)
    (hA : ∀ i, i < n → w.cell? ⟨b, i * 5, none⟩ = some (.string (A i))) (hC : ∀ i, i < n → w.cell? ⟨b, i * 5 + 1, none⟩ = some (.int .i64 (C i))) :
    Calls Yba.prog 4 #[.slice (some ⟨b, 0, none⟩) n n] w fun e w' => e = .returned (.pointer (some ⟨w.heap.size, 0, none⟩)) ∧ RegInv w w' b n ((n + 63) / 64) ((n + 63) / 64) A C := by
  have hq : ((n : Int) + 64 - 1).tdiv 64 = (((n + 63) / 64 : Nat) : Int) := by
    rw [Int.tdiv_eq_ediv_of_nonneg (by omega)]; omega
  obtain ⟨m, hm⟩ : ∃ m, m = (n + 63) / 64 := ⟨_, rfl⟩
  rw [← hm] at hq
  have hm1 : 64 * m ≤ n + 63 := by omega
  have hm2 : n ≤ 64 * m := by omega
  rw [← hm]
  have hmk := make26 m (by omega)
  obtain ⟨i0, hi, hz0, hz1, hz2⟩ := info_parts info26
  clear hz0 hz2
  clear hm
  go_enter Yba.func4, Yba.ntmps4
  go_wp2_with fail
  go_loopg [4] m (fun g i wr => ∃ k j : Nat, g + k = m ∧ Hid (j = 64 * k) ∧ i = .int .i64 (j : Int) ∧ RegInv w wr b n m k A C)
  case atStart => exact ⟨0, 0, rfl, rfl, rfl, RegInv.start ..⟩
  case round =>
    obtain ⟨k, j, hk, hj, rfl, hI⟩ := hrel
    by_cases hlt : j < n
    · have c0 := hI.below.cell (p := ⟨b, j * 5, none⟩) hb
      rw [hA _ hlt] at c0
      have c1 := hI.below.cell (p := ⟨b, j * 5 + 1, none⟩) hb
      rw [hC _ hlt] at c1
      have r1 : wr.cell? ⟨w.heap.size, 1, none⟩ = some (.slice (some ⟨w.heap.size + 1, 0, none⟩) k m) := by simp [World.cell?, hI.reg]
      have f1 : wr.frozen? ⟨w.heap.size, 1, none⟩ = false := by simp [World.frozen?, hI.reg]
      have hsz := hI.size
      have hlt' : (j : Int) < (n : Int) := by omega
      have r1' : ∀ o, (wr.alloc o).cell? ⟨w.heap.size, 1, none⟩ = some (.slice (some ⟨w.heap.size + 1, 0, none⟩) k m) := fun o => (World.cell?_alloc_past o _ _ (by omega)).trans r1
      have hkm : k < m := by have := hj.out; omega
      have hsp := hI.spare hkm (.cells #[.string (A j), .int .i64 (C j)] 26) (.string (A j)) (.int .i64 (C j))
      have HS : Hid _ := hsp
      have hfd := hI.field (.string (A j)) (.int .i64 (C j))
      have s1 : ((wr.alloc (.cells #[.string (A j), .int .i64 (C j)] 26)).drew.setCells (w.heap.size + 1) (k * 2) [.string (A j), .int .i64 (C j)]).cell? ⟨w.heap.size, 1, none⟩ = some (.slice (some ⟨w.heap.size + 1, 0, none⟩) k m) := by simp only [World.cell?, hfd]; rfl
      have s2 : ((wr.alloc (.cells #[.string (A j), .int .i64 (C j)] 26)).drew.setCells (w.heap.size + 1) (k * 2) [.string (A j), .int .i64 (C j)]).frozen? ⟨w.heap.size, 1, none⟩ = false := by simp [World.frozen?, hfd]
      have HI : Hid (RegInv w (stepWorld wr w.heap.size k m (.string (A j)) (.int .i64 (C j))) b n m (k + 1) A C) := hI.step hkm hj.out
      clear hq hmk hsp hfd
      go_wp2_with fail
      go_region_law (refine step_append_room rfl (.tmp 27) (.tmp 33) 35 rfl 26 i0 2 Yba.underlying35 hi hz1 (w.heap.size + 1) 0 k m (by simp [Act.eval]) ⟨wr.heap.size, 0, none⟩ 1 1 [.string (A j), .int .i64 (C j)] (by simp [Act.eval]) rfl (cells2 wr _ _) (by simp [Value.oneCell']) (by omega) HS.out ?_)
      all_goals
        go_wp2_with fail
        go_roundg (gk - 1)
        case measure => omega
        case rel => exact ⟨k + 1, j + 64, by omega, by have := hj.out; unfold Hid; omega, by go_num, HI.out⟩
    · have hkm : k = m := by have := hj.out; omega
      subst hkm
      have hlt' : ¬ (j : Int) < (n : Int) := by omega
      clear hq hmk
      go_wp2_with fail
      go_ret
      exact ⟨rfl, hI⟩
#print axioms newReg
end Go.Proofs.Ybulkckhy
