import Derived.Test.YbulkckoyProg
import Derived.WalkKit
import Derived.WalkSpells
import Derived.WalkLawsBesides
import Derived.Deep.LoopGhost
import Derived.Deep.Heap
import Derived.Deep.QuietTactic
import Derived.BigQuiet
import Derived.Outline
namespace Go.Proofs.Ybulkckoy
open Go.RowKit

theorem info50 : (Yba.prog.info? 50).map (fun i => (i.zero, i.size, i.bytes)) = some (some (.agg #[.string ⟨#[]⟩, .string ⟨#[]⟩, .string ⟨#[]⟩, .int .i64 0, .int .i64 0, .slice none 0 0]), 6, 88) := by kernel_rfl

def made50 (m : Nat) : Array Value := madeCells #[.string ⟨#[]⟩, .string ⟨#[]⟩, .string ⟨#[]⟩, .int .i64 0, .int .i64 0, .slice none 0 0] (m * 6)
theorem size_made50 (m : Nat) : (made50 m).size = m * 6 := size_madeCells _ _
theorem make50 (m : Nat) (h : m ≤ 1024) (w : World) : (Instr.makeSlice 34 (.int .i64 (m : Int)) (.int .i64 (m : Int))).run Yba.prog w =
    .ok (.slice (some ⟨w.heap.size, 0, none⟩) m m) (w.alloc (.cells (made50 m) 50)) := by
  obtain ⟨i0, hi, hz0, hz1, hz2⟩ := info_parts info50
  have := run_make (P := Yba.prog) w 34 50 i0 _ Yba.underlying34 hi hz0 .i64 .i64 m m (by omega) (by omega) (by rw [hz2]; omega) (by omega)
  rw [this, hz1]
  rfl

/-- One server's six cells, the machine's name in the first. -/
def Six (cur : Array Value) (j : Nat) (s : ByteArray) : Prop :=
  cur[j * 6]? = some (.string s) ∧ cur[j * 6 + 1]? = some (.string ⟨#[]⟩) ∧ cur[j * 6 + 2]? = some (.string ⟨#[]⟩) ∧ cur[j * 6 + 3]? = some (.int .i64 0) ∧ cur[j * 6 + 4]? = some (.int .i64 0) ∧ cur[j * 6 + 5]? = some (.slice none 0 0)

/-- The loop: k servers are laid in the new row. -/
structure Fill (w wr : World) (n k : Nat) (A : Nat → ByteArray) : Prop where
  below : Below w.heap.size w wr
  size : wr.heap.size = w.heap.size + 1
  row : ∃ cur : Array Value, wr.heap[w.heap.size]? = some (.cells cur 50 (0, 0)) ∧ cur.size = n * 6 ∧ ∀ j, j < k → Six cur j (A j)

theorem Fill.start (w : World) (n : Nat) (A : Nat → ByteArray) : Fill w (w.alloc (.cells (made50 n) 50)) n 0 A :=
  ⟨(Below.refl _ _).alloc (Nat.le_refl _) _, by simp, ⟨made50 n, heap_alloc_new _ _, size_made50 n, fun j hj => by omega⟩⟩

theorem blk_setCell_row {w : World} {b : Nat} {c : Array Value} {t : TypeId} (h : w.heap[b]? = some (.cells c t (0, 0))) (i : Nat) (v : Value) :
    (w.setCell ⟨b, i, none⟩ v).heap[b]? = some (.cells (c.setIfInBounds i v) t (0, 0)) := by
  simp [World.setCell, Array.getElem?_modify, h]

theorem Fill.cells {w wr : World} {n k : Nat} {A : Nat → ByteArray} (h : Fill w wr n k A) (hk : k < n) :
    (∃ v0 v1 v2 v3 v4 v5, wr.cell? ⟨w.heap.size, k * 6, none⟩ = some v0 ∧ wr.cell? ⟨w.heap.size, k * 6 + 1, none⟩ = some v1 ∧ wr.cell? ⟨w.heap.size, k * 6 + 2, none⟩ = some v2 ∧
      wr.cell? ⟨w.heap.size, k * 6 + 3, none⟩ = some v3 ∧ wr.cell? ⟨w.heap.size, k * 6 + 4, none⟩ = some v4 ∧ wr.cell? ⟨w.heap.size, k * 6 + 5, none⟩ = some v5) ∧ ∀ i, wr.frozen? ⟨w.heap.size, i, none⟩ = false := by
  obtain ⟨cur, hb, hs, _⟩ := h.row
  refine ⟨⟨cur[k * 6]'(by omega), cur[k * 6 + 1]'(by omega), cur[k * 6 + 2]'(by omega), cur[k * 6 + 3]'(by omega), cur[k * 6 + 4]'(by omega), cur[k * 6 + 5]'(by omega), ?_, ?_, ?_, ?_, ?_, ?_⟩, fun i => by simp [World.frozen?, hb]⟩ <;> simp [World.cell?, hb]

def fillW (wr : World) (N k : Nat) (x : Value) : World :=
  (((((wr.setCell ⟨N, k * 6, none⟩ x).setCell ⟨N, k * 6 + 1, none⟩ (.string ⟨#[]⟩)).setCell ⟨N, k * 6 + 2, none⟩ (.string ⟨#[]⟩)).setCell ⟨N, k * 6 + 3, none⟩ (.int .i64 0)).setCell ⟨N, k * 6 + 4, none⟩ (.int .i64 0)).setCell ⟨N, k * 6 + 5, none⟩ (.slice none 0 0)

def six (cur : Array Value) (k : Nat) (x : Value) : Array Value :=
  (((((cur.setIfInBounds (k * 6) x).setIfInBounds (k * 6 + 1) (.string ⟨#[]⟩)).setIfInBounds (k * 6 + 2) (.string ⟨#[]⟩)).setIfInBounds (k * 6 + 3) (.int .i64 0)).setIfInBounds (k * 6 + 4) (.int .i64 0)).setIfInBounds (k * 6 + 5) (.slice none 0 0)

theorem six_other {cur : Array Value} {k i : Nat} {x : Value} (h : i < k * 6 ∨ k * 6 + 6 ≤ i) : (six cur k x)[i]? = cur[i]? := by
  unfold six
  rw [Array.getElem?_setIfInBounds_ne (by omega), Array.getElem?_setIfInBounds_ne (by omega), Array.getElem?_setIfInBounds_ne (by omega), Array.getElem?_setIfInBounds_ne (by omega), Array.getElem?_setIfInBounds_ne (by omega), Array.getElem?_setIfInBounds_ne (by omega)]

theorem six_same {cur : Array Value} {k : Nat} {s : ByteArray} (h : k * 6 + 6 ≤ cur.size) : Six (six cur k (.string s)) k s := by
  unfold six Six
  refine ⟨?_, ?_, ?_, ?_, ?_, ?_⟩
  · rw [Array.getElem?_setIfInBounds_ne (by omega), Array.getElem?_setIfInBounds_ne (by omega), Array.getElem?_setIfInBounds_ne (by omega), Array.getElem?_setIfInBounds_ne (by omega), Array.getElem?_setIfInBounds_ne (by omega)]
    simp [Array.getElem?_setIfInBounds]; omega
  · rw [Array.getElem?_setIfInBounds_ne (by omega), Array.getElem?_setIfInBounds_ne (by omega), Array.getElem?_setIfInBounds_ne (by omega), Array.getElem?_setIfInBounds_ne (by omega)]
    simp [Array.getElem?_setIfInBounds]; omega
  · rw [Array.getElem?_setIfInBounds_ne (by omega), Array.getElem?_setIfInBounds_ne (by omega), Array.getElem?_setIfInBounds_ne (by omega)]
    simp [Array.getElem?_setIfInBounds]; omega
  · rw [Array.getElem?_setIfInBounds_ne (by omega), Array.getElem?_setIfInBounds_ne (by omega)]
    simp [Array.getElem?_setIfInBounds]; omega
  · rw [Array.getElem?_setIfInBounds_ne (by omega)]
    simp [Array.getElem?_setIfInBounds]; omega
  · simp [Array.getElem?_setIfInBounds]; omega

theorem Fill.step {w wr : World} {n k : Nat} {A : Nat → ByteArray} (h : Fill w wr n k A) (hk : k < n) : Fill w (fillW wr w.heap.size k (.string (A k))) n (k + 1) A := by
  obtain ⟨cur, hb, hs, hc⟩ := h.row
  refine ⟨?_, by simpa [fillW] using h.size, ⟨six cur k (.string (A k)), blk_setCell_row (blk_setCell_row (blk_setCell_row (blk_setCell_row (blk_setCell_row (blk_setCell_row hb _ _) _ _) _ _) _ _) _ _) _ _, by simpa [six] using hs, ?_⟩⟩
  · exact (((((h.below.setCell (Nat.le_refl _) _).setCell (Nat.le_refl _) _).setCell (Nat.le_refl _) _).setCell (Nat.le_refl _) _).setCell (Nat.le_refl _) _).setCell (Nat.le_refl _) _
  · intro j hj
    by_cases e : j = k
    · subst e
      exact six_same (by omega)
    · obtain ⟨a0, a1, a2, a3, a4, a5⟩ := hc j (by omega)
      refine ⟨?_, ?_, ?_, ?_, ?_, ?_⟩
      · rw [six_other (by omega)]; exact a0
      · rw [six_other (by omega)]; exact a1
      · rw [six_other (by omega)]; exact a2
      · rw [six_other (by omega)]; exact a3
      · rw [six_other (by omega)]; exact a4
      · rw [six_other (by omega)]; exact a5

theorem blockAdd (a : Addr) (i : Nat) : (a.add i).block = a.block := by unfold Addr.add; split <;> rfl

/-- The service that zzs4327bbuild hands back, at block S: its configuration at C, its n servers at N. -/
structure Svc (w : World) (S C N n : Nat) (A : Nat → ByteArray) : Prop where
  s0 : w.cell? ⟨S, 0, none⟩ = some (.pointer (some ⟨C, 0, none⟩))
  c6 : w.cell? ⟨C, 6, none⟩ = some (.slice (some ⟨N, 0, none⟩) n n)
  row : ∀ i, i < n → w.cell? ⟨N, i * 6, none⟩ = some (.string (A i)) ∧ w.cell? ⟨N, i * 6 + 1, none⟩ = some (.string ⟨#[]⟩) ∧ w.cell? ⟨N, i * 6 + 2, none⟩ = some (.string ⟨#[]⟩) ∧
    w.cell? ⟨N, i * 6 + 3, none⟩ = some (.int .i64 0) ∧ w.cell? ⟨N, i * 6 + 4, none⟩ = some (.int .i64 0) ∧ w.cell? ⟨N, i * 6 + 5, none⟩ = some (.slice none 0 0)

theorem Fill.svc {w wr : World} {n : Nat} {A : Nat → ByteArray} (h : Fill w wr n n A) (cs1 cs2 : Array Value) (h1 : cs1[6]? = some (.slice (some ⟨w.heap.size, 0, none⟩) n n)) (h2 : cs2[0]? = some (.pointer (some ⟨w.heap.size + 1, 0, none⟩))) :
    Svc ((wr.alloc (.cells cs1 36)).alloc (.cells cs2 47)) (w.heap.size + 2) (w.heap.size + 1) w.heap.size n A ∧ Below w.heap.size w ((wr.alloc (.cells cs1 36)).alloc (.cells cs2 47)) := by
  have hs := h.size
  obtain ⟨cur, hb, _, hc⟩ := h.row
  have hs1 : (wr.alloc (.cells cs1 36)).heap.size = w.heap.size + 2 := by simp [hs]
  have hr : ∀ i, ((wr.alloc (.cells cs1 36)).alloc (.cells cs2 47)).cell? ⟨w.heap.size, i, none⟩ = cur[i]? := fun i => by
    rw [World.cell?_alloc_past _ _ _ (by omega), World.cell?_alloc_past _ _ _ (by omega)]
    simp [World.cell?, hb]
  refine ⟨⟨?_, ?_, fun i hi => ?_⟩, (h.below.alloc (by omega) _).alloc (by omega) _⟩
  · rw [World.cell?_alloc_at _ _ _ _ hs1.symm]; exact h2
  · rw [World.cell?_alloc_past _ _ _ (by omega), World.cell?_alloc_at _ _ _ _ hs.symm]; exact h1
  · obtain ⟨a0, a1, a2, a3, a4, a5⟩ := hc i hi
    exact ⟨(hr _).trans a0, (hr _).trans a1, (hr _).trans a2, (hr _).trans a3, (hr _).trans a4, (hr _).trans a5⟩

set_option maxRecDepth 100000 in
set_option maxHeartbeats 800000 in
theorem build (a : Addr) (n c : Nat) (w : World) (A : Nat → ByteArray) (hn : n ≤ 1024) (hA : ∀ i, i < n → w.cell? (a.add i) = some (.string (A i))) :
    Calls Yba.prog 5 #[.slice (some a) n c] w fun e w' => e = .returned (.pointer (some ⟨w.heap.size + 2, 0, none⟩)) ∧ Svc w' (w.heap.size + 2) (w.heap.size + 1) w.heap.size n A ∧ Below w.heap.size w w' := by
  have hmk := make50 n hn
  go_enter Yba.func5, Yba.ntmps5
  go_wp2_with fail
  go_loopg [4] n (fun g i wr => ∃ k : Nat, g + k = n ∧ i = .int .i64 (k : Int) ∧ Fill w wr n k A)
  case atStart => exact ⟨0, rfl, rfl, Fill.start ..⟩
  case round =>
    obtain ⟨k, hk, rfl, hI⟩ := hrel
    by_cases hlt : k < n
    · have hlt' : (k : Int) < (n : Int) := by omega
      have hb : (a.add k).block < w.heap.size := World.block_lt_of_cell? w _ (hA _ hlt)
      have c0 := (hI.below.cell (p := a.add k) hb).trans (hA _ hlt)
      obtain ⟨⟨v0, v1, v2, v3, v4, v5, g0, g1, g2, g3, g4, g5⟩, gf⟩ := hI.cells hlt
      have HI : Hid (Fill w (fillW wr w.heap.size k (.string (A k))) n (k + 1) A) := hI.step hlt
      clear hmk
      go_wp2_with fail
      go_roundg (gk - 1)
      case measure => omega
      case rel => exact ⟨k + 1, by omega, by go_num, HI.out⟩
    · have hkn : k = n := by omega
      subst hkn
      have hlt' : ¬ (k : Int) < (k : Int) := by omega
      have hs := hI.size
      clear hmk hk hlt
      go_wp2_with fail
      go_ret
      exact ⟨rfl, hI.svc _ _ rfl rfl⟩

set_option maxRecDepth 100000 in
set_option maxHeartbeats 800000 in
theorem build_nil (w : World) (A : Nat → ByteArray) :
    Calls Yba.prog 5 #[.slice none 0 0] w fun e w' => e = .returned (.pointer (some ⟨w.heap.size + 2, 0, none⟩)) ∧ Svc w' (w.heap.size + 2) (w.heap.size + 1) w.heap.size 0 A ∧ Below w.heap.size w w' := by
  have hmk := make50 0 (by omega)
  simp only [Int.natCast_zero] at hmk
  have HI : Hid (Fill w (w.alloc (.cells (made50 0) 50)) 0 0 A) := Fill.start w 0 A
  go_enter Yba.func5, Yba.ntmps5
  go_wp2_with fail
  refine wp_loop_rounds 1 ?_
  rw [rounds_succ]
  go_wp2_with fail
  go_ret
  exact ⟨rfl, HI.out.svc _ _ rfl rfl⟩

/-- The world may grow: the service stays. -/
theorem Svc.kept {w w' : World} {S C N n B : Nat} {A : Nat → ByteArray} (h : Svc w S C N n A) (hb : Below B w w') (hS : S < B) (hC : C < B) (hN : N < B) : Svc w' S C N n A :=
  ⟨(hb.cell (p := ⟨S, 0, none⟩) hS).trans h.s0, (hb.cell (p := ⟨C, 6, none⟩) hC).trans h.c6, fun i hi => by
    obtain ⟨a0, a1, a2, a3, a4, a5⟩ := h.row i hi
    exact ⟨(hb.cell (p := ⟨N, _, none⟩) hN).trans a0, (hb.cell (p := ⟨N, _, none⟩) hN).trans a1, (hb.cell (p := ⟨N, _, none⟩) hN).trans a2, (hb.cell (p := ⟨N, _, none⟩) hN).trans a3, (hb.cell (p := ⟨N, _, none⟩) hN).trans a4, (hb.cell (p := ⟨N, _, none⟩) hN).trans a5⟩⟩

/-- What place answers: one more than the index of the first server of that name; 0 where there is none. -/
def Placed (A : Nat → ByteArray) (n : Nat) (m : ByteArray) (x : Int) : Prop :=
  (x = 0 ∧ ∀ i, i < n → ((A i).toList == m.toList) = false) ∨ ∃ t : Nat, x = (t : Int) + 1 ∧ t < n ∧ ((A t).toList == m.toList) = true ∧ ∀ i, i < t → ((A i).toList == m.toList) = false

set_option maxRecDepth 100000 in
set_option maxHeartbeats 800000 in
theorem place (S C N n : Nat) (m : ByteArray) (w : World) (A : Nat → ByteArray) (hn : n ≤ 1024) (h : Svc w S C N n A) (hNw : N < w.heap.size) :
    Calls Yba.prog 6 #[.pointer (some ⟨S, 0, none⟩), .string m] w fun e w' => (∃ x, e = .returned (.int .i64 x) ∧ Placed A n m x) ∧ Below w.heap.size w w' := by
  have s0 := h.s0
  have c6 := h.c6
  have HR : Hid _ := h.row
  clear h
  go_enter Yba.func6, Yba.ntmps6
  go_wp2_with fail
  go_loopg [15] n (fun g i wr => ∃ k : Nat, g + k = n ∧ i = .int .i64 (k : Int) ∧ (∀ j, j < k → ((A j).toList == m.toList) = false) ∧ Below w.heap.size w wr)
  case atStart => exact ⟨0, rfl, rfl, fun j hj => by omega, Below.refl _ _⟩
  case round =>
    obtain ⟨k, hk, rfl, hne, hb⟩ := hrel
    have HN : Hid _ := hne
    clear hne
    by_cases hlt : k < n
    · have hlt' : (k : Int) < (n : Int) := by omega
      obtain ⟨a0, a1, a2, a3, a4, a5⟩ := HR.out k hlt
      have b0 := (hb.cell (p := ⟨N, _, none⟩) hNw).trans a0
      have b1 := (hb.cell (p := ⟨N, _, none⟩) hNw).trans a1
      have b2 := (hb.cell (p := ⟨N, _, none⟩) hNw).trans a2
      have b3 := (hb.cell (p := ⟨N, _, none⟩) hNw).trans a3
      have b4 := (hb.cell (p := ⟨N, _, none⟩) hNw).trans a4
      have b5 := (hb.cell (p := ⟨N, _, none⟩) hNw).trans a5
      have hsz := hb.size
      have hNr : N < wr.heap.size := by omega
      clear a0 a1 a2 a3 a4 a5 s0 c6
      rcases Bool.eq_false_or_eq_true ((A k).toList == m.toList) with he | he
      · go_wp2_with fail
        go_ret
        exact ⟨⟨_, rfl, .inr ⟨k, rfl, hlt, he, HN.out⟩⟩, hb.alloc hsz _⟩
      · go_wp2_with fail
        go_roundg (gk - 1)
        case measure => omega
        case rel => exact ⟨k + 1, by omega, by go_num, fun j hj => by
                      rcases Nat.lt_or_ge j k with h | h
                      · exact HN.out j h
                      · obtain rfl : j = k := by omega
                        exact he, hb.alloc hsz _⟩
    · have hkn : k = n := by omega
      subst hkn
      have hlt' : ¬ (k : Int) < (k : Int) := by omega
      clear hk hlt s0 c6
      go_wp2_with fail
      go_ret
      exact ⟨⟨_, rfl, .inl ⟨rfl, HN.out⟩⟩, hb⟩
end Go.Proofs.Ybulkckoy
