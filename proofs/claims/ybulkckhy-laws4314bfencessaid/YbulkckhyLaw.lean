import Derived.Test.YbulkckhyReg
import Derived.Deep.QuietTactic
import Derived.BigQuiet
import Derived.Lib.SliceRun
import Derived.LaidEqlPtr
namespace Go.Proofs.Ybulkckhy
open Go.RowKit

def made32 (m : Nat) : Array Value := madeCells #[.string ⟨#[]⟩, .int .i64 0, .slice none 0 0, .int .i64 0, .pointer none] (m * 5)
theorem size_made32 (m : Nat) : (made32 m).size = m * 5 := size_madeCells _ _
theorem make32 (m : Nat) (h : m ≤ 4096) (w : World) : (Instr.makeSlice 24 (.int .i64 (m : Int)) (.int .i64 (m : Int))).run Yba.prog w =
    .ok (.slice (some ⟨w.heap.size, 0, none⟩) m m) (w.alloc (.cells (made32 m) 32)) := by
  obtain ⟨i0, hi, hz0, hz1, hz2⟩ := info_parts info32
  have := run_make (P := Yba.prog) w 24 32 i0 _ Yba.underlying24 hi hz0 .i64 .i64 m m (by omega) (by omega) (by rw [hz2]; omega) (by omega)
  rw [this, hz1]
  rfl

/-- The class that the law gives entry j. -/
def cls (l : Nat) (Z : Nat → Int) (j : Nat) : Int := if l = 0 then 0 else Z (j % l)

/-- Loop 1: k entries are laid in the new row at block N. -/
structure FillInv (w wr : World) (n k : Nat) (A : Nat → ByteArray) (C : Nat → Int) : Prop where
  below : Below w.heap.size w wr
  size : wr.heap.size = w.heap.size + 1
  row : ∃ cur : Array Value, wr.heap[w.heap.size]? = some (.cells cur 32 (0, 0)) ∧ cur.size = n * 5 ∧
    ∀ j, j < k → cur[j * 5]? = some (.string (A j)) ∧ cur[j * 5 + 1]? = some (.int .i64 (C j))

theorem FillInv.start (w : World) (n : Nat) (A : Nat → ByteArray) (C : Nat → Int) : FillInv w (w.alloc (.cells (made32 n) 32)) n 0 A C :=
  ⟨(Below.refl _ _).alloc (Nat.le_refl _) _, by simp, ⟨made32 n, heap_alloc_new _ _, size_made32 n, fun j hj => by omega⟩⟩

/-- 'p != p' on pointers to an entry. -/
theorem neq39 (a : Addr) (w : World) : (binOp .neq 39 (.pointer (some a)) (.pointer (some a))).run Yba.prog w = .ok (.bool false) w := by
  obtain ⟨i0, hi, _, _, _⟩ := info_parts info32
  have h : ∀ d : Nat, (Op.equalIn (d + 1) 39 (.pointer (some a)) (.pointer (some a))).run Yba.prog w = .ok true w := fun d => by
    simp [Op.equalIn, run_underlying Yba.underlying39, sizeOf, typeInfo, hi, run_sameAddr_same]
  simp only [binOp]
  simp [Op.equal, Op.maxDepth, h 9999]

theorem blockAdd (a : Addr) (i : Nat) : (a.add i).block = a.block := by unfold Addr.add; split <;> rfl

/-- The five cells of entry k, as they lie. -/
theorem FillInv.cells {w wr : World} {n k : Nat} {A : Nat → ByteArray} {C : Nat → Int} (h : FillInv w wr n k A C) (hk : k < n) :
    (∃ v0 v1 v2 v3 v4, wr.cell? ⟨w.heap.size, k * 5, none⟩ = some v0 ∧ wr.cell? ⟨w.heap.size, k * 5 + 1, none⟩ = some v1 ∧ wr.cell? ⟨w.heap.size, k * 5 + 2, none⟩ = some v2 ∧
      wr.cell? ⟨w.heap.size, k * 5 + 3, none⟩ = some v3 ∧ wr.cell? ⟨w.heap.size, k * 5 + 4, none⟩ = some v4) ∧ ∀ i, wr.frozen? ⟨w.heap.size, i, none⟩ = false := by
  obtain ⟨cur, hb, hs, _⟩ := h.row
  refine ⟨⟨cur[k * 5]'(by omega), cur[k * 5 + 1]'(by omega), cur[k * 5 + 2]'(by omega), cur[k * 5 + 3]'(by omega), cur[k * 5 + 4]'(by omega), ?_, ?_, ?_, ?_, ?_⟩, fun i => by simp [World.frozen?, hb]⟩ <;> simp [World.cell?, hb]

/-- What the round leaves. -/
def fillWorld (wr : World) (N k : Nat) (x y : Value) : World :=
  ((((wr.setCell ⟨N, k * 5, none⟩ x).setCell ⟨N, k * 5 + 1, none⟩ y).setCell ⟨N, k * 5 + 2, none⟩ (.slice none 0 0)).setCell ⟨N, k * 5 + 3, none⟩ (.int .i64 0)).setCell ⟨N, k * 5 + 4, none⟩ (.pointer none)

theorem FillInv.step {w wr : World} {n k : Nat} {A : Nat → ByteArray} {C : Nat → Int} (h : FillInv w wr n k A C) (hk : k < n) :
    FillInv w (fillWorld wr w.heap.size k (.string (A k)) (.int .i64 (C k))) n (k + 1) A C := by
  obtain ⟨cur, hb, hs, hc⟩ := h.row
  have hsz := h.size
  unfold fillWorld
  refine ⟨?_, by simpa using hsz, ⟨_, blk_setCell_row (blk_setCell_row (blk_setCell_row (blk_setCell_row (blk_setCell_row hb _ _) _ _) _ _) _ _) _ _, by simpa using hs, ?_⟩⟩
  · exact ((((h.below.setCell (Nat.le_refl _) _).setCell (Nat.le_refl _) _).setCell (Nat.le_refl _) _).setCell (Nat.le_refl _) _).setCell (Nat.le_refl _) _
  · intro j hj
    by_cases e : j = k
    · subst e
      constructor
      · rw [Array.getElem?_setIfInBounds_ne (by omega), Array.getElem?_setIfInBounds_ne (by omega), Array.getElem?_setIfInBounds_ne (by omega), Array.getElem?_setIfInBounds_ne (by omega)]
        simp [Array.getElem?_setIfInBounds, hs]; omega
      · rw [Array.getElem?_setIfInBounds_ne (by omega), Array.getElem?_setIfInBounds_ne (by omega), Array.getElem?_setIfInBounds_ne (by omega)]
        simp [Array.getElem?_setIfInBounds, hs]; omega
    · have hjk : j < k := by omega
      have := hc j hjk
      constructor
      · rw [Array.getElem?_setIfInBounds_ne (by omega), Array.getElem?_setIfInBounds_ne (by omega), Array.getElem?_setIfInBounds_ne (by omega), Array.getElem?_setIfInBounds_ne (by omega), Array.getElem?_setIfInBounds_ne (by omega)]
        exact this.1
      · rw [Array.getElem?_setIfInBounds_ne (by omega), Array.getElem?_setIfInBounds_ne (by omega), Array.getElem?_setIfInBounds_ne (by omega), Array.getElem?_setIfInBounds_ne (by omega), Array.getElem?_setIfInBounds_ne (by omega)]
        exact this.2

theorem FillInv.read {w wr : World} {n k : Nat} {A : Nat → ByteArray} {C : Nat → Int} (h : FillInv w wr n k A C) {i : Nat} (hi : i < k) :
    wr.cell? ⟨w.heap.size, i * 5, none⟩ = some (.string (A i)) ∧ wr.cell? ⟨w.heap.size, i * 5 + 1, none⟩ = some (.int .i64 (C i)) := by
  obtain ⟨cur, hb, hs, hc⟩ := h.row
  simpa [World.cell?, hb] using hc i hi

theorem RegInv.fence {w wr : World} {b n m k : Nat} {A : Nat → ByteArray} {C : Nat → Int} (h : RegInv w wr b n m k A C) {i : Nat} (hi : i < k) :
    wr.cell? ⟨w.heap.size + 1, i * 2, none⟩ = some (.string (A (64 * i))) ∧ wr.cell? ⟨w.heap.size + 1, i * 2 + 1, none⟩ = some (.int .i64 (C (64 * i))) := by
  obtain ⟨cur, hb, hs, hc⟩ := h.fen
  simpa [World.cell?, hb] using hc i hi

set_option maxRecDepth 100000 in
set_option maxHeartbeats 1600000 in
theorem law_pos (a : Addr) (n ca : Nat) (co : Option Addr) (l cc : Nat) (w : World) (A : Nat → ByteArray) (Z : Nat → Int) (hn : n ≤ 4096) (hn0 : 0 < n)
    (hlm : l ≤ maxLen) (hba : a.block < w.heap.size)
    (hA : ∀ i, i < n → w.cell? (a.add i) = some (.string (A i))) (hZ : 0 < l → ∃ a', co = some a' ∧ a'.block < w.heap.size ∧ ∀ i, i < l → w.cell? (a'.add i) = some (.int .i64 (Z i))) :
    Calls Yba.prog 3 #[.slice (some a) n ca, .slice co l cc] w fun e w' => e = .returned (.bool true) ∧ Below w.heap.size w w' := by
  unfold maxLen at hlm
  have hmk := make32 n hn
  have hnn := fun w => Lib.run_eql_slice_nil (P := Yba.prog) w 24 32
  go_enter Yba.func3, Yba.ntmps3
  go_wp2_with fail
  go_loopg [7, 8] n (fun g i c wr => ∃ k : Nat, g + k = n ∧ i = .int .i64 (k : Int) ∧ FillInv w wr n k A (cls l Z))
  case atStart => exact ⟨0, rfl, rfl, FillInv.start ..⟩
  case round =>
    obtain ⟨k, hk, rfl, hI⟩ := hrel
    by_cases hlt : k < n
    · have hlt' : (k : Int) < (n : Int) := by omega
      have c0 := (hI.below.cell (p := a.add k) (by rw [blockAdd]; exact hba)).trans (hA _ hlt)
      obtain ⟨⟨v0, v1, v2, v3, v4, g0, g1, g2, g3, g4⟩, gf⟩ := hI.cells hlt
      have HI : Hid (FillInv w (fillWorld wr w.heap.size k (.string (A k)) (.int .i64 (cls l Z k))) n (k + 1) A (cls l Z)) := hI.step hlt
      by_cases hl : 0 < l
      · obtain ⟨a', rfl, hba', hZ'⟩ := hZ hl
        have hl' : (0 : Int) < (l : Int) := by omega
        have hm0 : 0 ≤ (k : Int) % (l : Int) := Int.emod_nonneg _ (by omega)
        have hm1 : (k : Int) % (l : Int) < (l : Int) := Int.emod_lt_of_pos _ hl'
        have c1 := (hI.below.cell (p := a'.add (k % l)) (by rw [blockAdd]; exact hba')).trans (hZ' _ (Nat.mod_lt _ hl))
        have hcl : cls l Z k = Z (k % l) := by unfold cls; rw [if_neg (by omega)]
        rw [hcl] at HI
        clear hcl hmk hnn hZ hZ'
        go_wp2_with fail
        go_roundg (gk - 1)
        case measure => omega
        case rel => exact ⟨k + 1, by omega, by go_num, HI.out⟩
      · obtain rfl : l = 0 := by omega
        have hcl : cls 0 Z k = 0 := by unfold cls; rw [if_pos rfl]
        rw [hcl] at HI
        clear hcl hmk hnn hZ
        go_wp2_with fail
        go_roundg (gk - 1)
        case measure => omega
        case rel => exact ⟨k + 1, by omega, by go_num, HI.out⟩
    · have hkn : k = n := by omega
      subst hkn
      have hlt' : ¬ (k : Int) < (k : Int) := by omega
      clear hmk
      go_wp2_with fail
      have hNw : w.heap.size < wr.heap.size := by have := hI.size; omega
      refine (newReg w.heap.size k wr A (cls l Z) hn hNw (fun i hi => (hI.read hi).1) (fun i hi => (hI.read hi).2)).mono ?_
      rintro e w2 ⟨rfl, hR⟩
      have hsz2 := hI.size
      have q0 : w2.cell? ⟨wr.heap.size, 0, none⟩ = some (.slice (some ⟨w.heap.size, 0, none⟩) k k) := by simp [World.cell?, hR.reg]
      have q1 : w2.cell? ⟨wr.heap.size, 1, none⟩ = some (.slice (some ⟨wr.heap.size + 1, 0, none⟩) ((k + 63) / 64) ((k + 63) / 64)) := by simp [World.cell?, hR.reg]
      have q2 : w2.cell? ⟨wr.heap.size, 2, none⟩ = some (.slice none 0 0) := by simp [World.cell?, hR.reg]
      have e0 : ∀ i, i < k → w2.cell? ⟨w.heap.size, i * 5, none⟩ = some (.string (A i)) := fun i hi => (hR.below.cell (p := ⟨w.heap.size, i * 5, none⟩) hNw).trans (hI.read hi).1
      have e1 : ∀ i, i < k → w2.cell? ⟨w.heap.size, i * 5 + 1, none⟩ = some (.int .i64 (cls l Z i)) := fun i hi => (hR.below.cell (p := ⟨w.heap.size, i * 5 + 1, none⟩) hNw).trans (hI.read hi).2
      have ea : ∀ i, i < k → w2.cell? (a.add i) = some (.string (A i)) := fun i hi =>
        (hR.below.cell (p := a.add i) (by rw [blockAdd]; omega)).trans ((hI.below.cell (p := a.add i) (by rw [blockAdd]; exact hba)).trans (hA i hi))
      have ef : ∀ i, i < (k + 63) / 64 → w2.cell? ⟨wr.heap.size + 1, i * 2, none⟩ = some (.string (A (64 * i))) ∧ w2.cell? ⟨wr.heap.size + 1, i * 2 + 1, none⟩ = some (.int .i64 (cls l Z (64 * i))) := fun i hi => hR.fence hi
      have hbel : Below w.heap.size w w2 := hI.below.trans (hR.below.mono (by omega))
      obtain ⟨m, hm⟩ : ∃ m, m = (k + 63) / 64 := ⟨_, rfl⟩
      rw [← hm] at q1 ef
      have hm1 : 64 * m ≤ k + 63 := by omega
      have hm2 : k ≤ 64 * m := by omega
      clear hR hI hA hZ hm hsz2 hk hlt
      generalize wr.heap.size = R at *
      have z1 : Hid _ := e0
      have z2 : Hid _ := e1
      have z3 : Hid _ := ea
      have z4 : Hid _ := ef
      have hpp := neq39
      clear e0 e1 ea ef
      have hk0' : (0 : Int) < (k : Int) := by omega
      go_wp2_with fail
      go_quiet (fail)
      clear hpp
      go_wp2_with fail
      go_loopg [10] k (fun g i wx => ∃ q t : Nat, g + t = k ∧ i = .int .i64 (t : Int) ∧ wx = w2.drewN q)
      case atStart => exact ⟨_, 0, rfl, rfl, rfl⟩
      case round =>
        obtain ⟨q, t, ht, rfl, rfl⟩ := hrel
        by_cases hlt : t < k
        · have hlt' : (t : Int) < (k : Int) := by omega
          have d0 := z1.out t hlt
          have d1 := z2.out t hlt
          have d2 := z3.out t hlt
          go_wp2_with fail
          go_quiet (fail)
          go_wp2_with fail
          go_quiet (fail)
          go_wp2_with fail
          go_roundg (gk - 1)
          case measure => omega
          case rel => exact ⟨_, t + 1, by omega, by go_num, rfl⟩
        · have hlt' : ¬ (t : Int) < (k : Int) := by omega
          clear ht
          go_wp2_with fail
          go_loopg [11, 12] m (fun g c i wx => ∃ t j : Nat, g + t = m ∧ Hid (j = 64 * t) ∧ c = .int .i64 (t : Int) ∧ i = .int .i64 (j : Int) ∧ wx = w2.drewN q)
          case atStart => exact ⟨0, 0, rfl, rfl, rfl, rfl, rfl⟩
          case round =>
            obtain ⟨t3, j3, ht3, hj3, rfl, rfl, rfl⟩ := hrel
            by_cases hlt3 : j3 < k
            · have hlt3' : (j3 : Int) < (k : Int) := by omega
              have htm : t3 < m := by have := hj3.out; omega
              go_wp2_with fail
              go_roundg (gk - 1)
              case measure => omega
              case rel => exact ⟨t3 + 1, j3 + 64, by omega, by have := hj3.out; unfold Hid; omega, by go_num, by go_num, rfl⟩
            · have hlt3' : ¬ (j3 : Int) < (k : Int) := by omega
              have htm : t3 = m := by have := hj3.out; omega
              subst htm
              clear ht3
              go_wp2_with fail
              go_loopg [13] t3 (fun g i wx => ∃ q t : Nat, g + t = t3 ∧ i = .int .i64 (t : Int) ∧ wx = w2.drewN q)
              case atStart => exact ⟨_, 0, rfl, rfl, rfl⟩
              case round =>
                obtain ⟨q4, t4, ht4, rfl, rfl⟩ := hrel
                by_cases hlt4 : t4 < t3
                · have hlt4' : (t4 : Int) < (t3 : Int) := by omega
                  have hi4 : 64 * t4 < k := by omega
                  have hi4' : 64 * (t4 : Int) < (k : Int) := by omega
                  have d0 := z1.out (64 * t4) hi4
                  have d1 := z2.out (64 * t4) hi4
                  have d2 := (z4.out t4 hlt4).1
                  have d3 := (z4.out t4 hlt4).2
                  go_wp2_with fail
                  go_quiet (fail)
                  go_wp2_with fail
                  go_roundg (gk - 1)
                  case measure => omega
                  case rel => exact ⟨_, t4 + 1, by omega, by go_num, rfl⟩
                · have hlt4' : ¬ (t4 : Int) < (t3 : Int) := by omega
                  go_wp2_with fail
                  go_ret
                  exact ⟨rfl, below_drewN hbel _⟩

set_option maxRecDepth 100000 in
theorem law_big (ao : Option Addr) (n ca : Nat) (co : Option Addr) (l cc : Nat) (w : World) (hn : 4096 < n) (hnm : n ≤ maxLen) :
    Calls Yba.prog 3 #[.slice ao n ca, .slice co l cc] w fun e w' => e = .returned (.bool true) ∧ Below w.heap.size w w' := by
  unfold maxLen at hnm
  have hn' : (4096 : Int) < (n : Int) := by omega
  go_enter Yba.func3, Yba.ntmps3
  go_wp2
  go_ret
  exact ⟨rfl, Below.refl _ _⟩

theorem newReg_nil (w : World) : Calls Yba.prog 4 #[.slice none 0 0] w fun e w' => e = .returned (.pointer (some ⟨w.heap.size, 0, none⟩)) ∧
    w' = (w.alloc (.cells #[.slice none 0 0, .slice (some ⟨w.heap.size + 1, 0, none⟩) 0 0, .slice none 0 0] 38)).alloc (.cells (made26 0) 26) := by
  have hmk := make26 0 (by omega)
  simp only [Int.natCast_zero] at hmk
  go_enter Yba.func4, Yba.ntmps4
  go_wp2_with fail
  refine wp_loop_rounds 1 ?_
  rw [rounds_succ]
  go_wp2_with fail
  go_ret
  exact ⟨rfl, rfl⟩

end Go.Proofs.Ybulkckhy
