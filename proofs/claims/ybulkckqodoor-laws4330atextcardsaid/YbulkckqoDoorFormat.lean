import Derived.Test.YbulkckqoDoorShelf
import Derived.Test.YbulkckqoDoorItoa
import Derived.WalkSmall
import Derived.Deep.RegionWith
import Derived.Deep.CutRange
namespace Go.Proofs.YbulkckqoDoor
open Go.RowKit Go.Lib

/-- The library's table holds the powers of ten. -/
def Tab (w : World) : Prop := TabIs Ybad.prog w powName .u64 pow10Tab

theorem gPow : Ybad.prog.globalNamed powName = some 0 := by kernel_rfl

theorem Tab.kept {w w' : World} {B : Nat} (h : Tab w) (hb : Below B w w') (hB : 0 < B) : Tab w' := by
  unfold Tab TabIs at *
  exact var?_below hb gPow hB h

theorem below_grow {w : World} (os : Array Obj) (k : Nat) : Below w.heap.size w (Sort.grow (w.drewN k) os) := by
  refine ⟨rfl, rfl, rfl, by simp, fun j hj => ?_⟩
  show (w.heap ++ os)[j]? = w.heap[j]?
  rw [Array.getElem?_append_left hj]

/-- strconv.Itoa. -/
theorem itoaGo (n : Int) (w : World) (h0 : -9223372036854775808 ≤ n) (h1 : n ≤ 9223372036854775807) (ht : Tab w) :
    Calls Ybad.prog 6 #[.int .i64 n] w fun e w' => e = .returned (.string ⟨(itoa n).toArray⟩) ∧ Below w.heap.size w w' := by
  refine (Ybad.strconv_Itoa n h0 h1 w ht).mono ?_
  rintro e w' ⟨rfl, k, os, rfl⟩
  exact ⟨rfl, below_grow os k⟩

theorem itoaGoA (n : Int) (A : ByteArray) (w : World) (h0 : -9223372036854775808 ≤ n) (h1 : n ≤ 9223372036854775807) (hA : A = ⟨(itoa n).toArray⟩) (ht : Tab w) :
    Calls Ybad.prog 6 #[.int .i64 n] w fun e w' => e = .returned (.string A) ∧ Below w.heap.size w w' := by
  rw [hA]; exact itoaGo n w h0 h1 ht

theorem info9 : (Ybad.prog.info? 9).map (fun i => (i.zero, i.size, i.bytes)) = some (some (.string ⟨#[]⟩), 1, 16) := by kernel_rfl
def made9 (m : Nat) : Array Value := madeCells #[.string ⟨#[]⟩] (m * 1)
theorem size_made9 (m : Nat) : (made9 m).size = m := by unfold made9; rw [size_madeCells]; omega
theorem make9 (m : Nat) (h : m ≤ 1024) (w : World) : (Instr.makeSlice 31 (.int .i64 (m : Int)) (.int .i64 (m : Int))).run Ybad.prog w =
    .ok (.slice (some ⟨w.heap.size, 0, none⟩) m m) (w.alloc (.cells (made9 m) 9)) := by
  obtain ⟨i0, hi, hz0, hz1, hz2⟩ := info_parts info9
  have := run_make (P := Ybad.prog) w 31 9 i0 _ Ybad.underlying31 hi hz0 .i64 .i64 m m (by omega) (by omega) (by rw [hz2]; omega) (by omega)
  rw [this, hz1]
  rfl

/-- One pair's text. -/
def pairB (s p : Int) : ByteArray := ⟨(itoa s).toArray⟩ ++ ⟨#[58]⟩ ++ ⟨(itoa p).toArray⟩

/-- format's loop: k texts are laid in the new row. -/
structure Items (w wr : World) (n k : Nat) (S Q : Nat → Int) : Prop where
  below : Below w.heap.size w wr
  tab : Tab wr
  row : ∃ cur : Array Value, wr.heap[w.heap.size]? = some (.cells cur 9 (0, 0)) ∧ cur.size = n ∧ ∀ j, j < k → cur[j]? = some (.string (pairB (S j) (Q j)))

theorem Items.lt {w wr : World} {n k : Nat} {S Q : Nat → Int} (h : Items w wr n k S Q) : w.heap.size < wr.heap.size := by
  obtain ⟨cur, hb, _⟩ := h.row
  exact (Array.getElem?_eq_some_iff.1 hb).1

theorem Items.step {w wr w' : World} {n k : Nat} {S Q : Nat → Int} (h : Items w wr n k S Q) (hk : k < n) (h0 : 0 < w.heap.size) (hb : Below wr.heap.size wr w') :
    Items w (w'.setCell ⟨w.heap.size, k, none⟩ (.string (pairB (S k) (Q k)))) n (k + 1) S Q := by
  have hlt := h.lt
  obtain ⟨cur, hc, hs, hcs⟩ := h.row
  have hc' : w'.heap[w.heap.size]? = some (.cells cur 9 (0, 0)) := (hb.block _ hlt).trans hc
  have hB : Below w.heap.size w (w'.setCell ⟨w.heap.size, k, none⟩ (.string (pairB (S k) (Q k)))) := (h.below.trans (hb.mono (by omega))).setCell (Nat.le_refl _) _
  refine ⟨hB, (h.tab.kept hb (by omega)).kept (B := 1) ((Below.refl _ _).setCell (by show 1 ≤ w.heap.size; omega) _) (by omega), ⟨_, blk_setCell_row hc' _ _, by simpa using hs, fun j hj => ?_⟩⟩
  by_cases e : j = k
  · subst e; simp [Array.getElem?_setIfInBounds]; omega
  · rw [Array.getElem?_setIfInBounds_ne (by omega)]; exact hcs j (by omega)

/-- The pairs' slice, as it lies: n pairs from block N's head on. -/
def Pairs (w : World) (N n : Nat) (S Q : Nat → Int) : Prop := ∀ i, i < n → w.cell? ⟨N, i * 2, none⟩ = some (.int .i64 (S i)) ∧ w.cell? ⟨N, i * 2 + 1, none⟩ = some (.int .i64 (Q i))

theorem Items.start {w : World} (n : Nat) (S Q : Nat → Int) (ht : Tab w) (h0 : 0 < w.heap.size) : Items w (w.alloc (.cells (made9 n) 9)) n 0 S Q :=
  ⟨(Below.refl _ _).alloc (Nat.le_refl _) _, ht.kept ((Below.refl _ _).alloc (Nat.le_refl _) _) h0, ⟨made9 n, heap_alloc_new _ _, size_made9 n, fun j hj => by omega⟩⟩

/-- The row's cell k, in whatever later world. -/
theorem Items.cell {w wr w' : World} {n k : Nat} {S Q : Nat → Int} (h : Items w wr n k S Q) (hk : k < n) (hb : Below wr.heap.size wr w') :
    ∃ v, w'.cell? ⟨w.heap.size, k, none⟩ = some v ∧ w'.frozen? ⟨w.heap.size, k, none⟩ = false := by
  have hlt := h.lt
  obtain ⟨cur, hc, hs, _⟩ := h.row
  have hc' : w'.heap[w.heap.size]? = some (.cells cur 9 (0, 0)) := (hb.block _ hlt).trans hc
  exact ⟨cur[k]'(by omega), by simp [World.cell?, hc'], by simp [World.frozen?, hc']⟩

theorem tab_after {wp w1 : World} (ht : Tab wp) (hb : Below wp.drew.heap.size wp.drew w1) (h : 0 < wp.heap.size) : Tab w1 := Tab.kept (w := wp.drew) ht hb h
theorem chain {wr wp w1 w2 : World} (h0 : Below wr.heap.size wr wp) (h1 : Below wp.drew.heap.size wp.drew w1) (h2 : Below w1.heap.size w1 w2) : Below wr.heap.size wr w2 :=
  h0.drew.trans ((h1.mono h0.size).trans (h2.mono (Nat.le_trans h0.size h1.size)))

theorem itoa_size {n : Int} (h : -9223372036854775808 ≤ n ∧ n ≤ 9223372036854775807) : (⟨(itoa n).toArray⟩ : ByteArray).size ≤ 21 := by
  have := itoa_len h.1 h.2
  show (itoa n).toArray.size ≤ 21
  simpa using this

theorem pairB_list (s p : Int) : (pairB s p).data.toList = pair s p := by
  unfold pairB pair
  simp

theorem join_items (S Q : Nat → Int) (n : Nat) : join (((List.range n).map fun i => pairB (S i) (Q i)).map (·.data.toList)) (⟨#[44]⟩ : ByteArray).data.toList = built S Q n := by
  rw [built_join, List.map_map]
  have e : ((fun x : ByteArray => x.data.toList) ∘ fun i => pairB (S i) (Q i)) = fun i => pair (S i) (Q i) := funext fun i => pairB_list _ _
  rw [e]

/-- strings.Join of all the texts. -/
theorem items_join {w wr : World} {n : Nat} {S Q : Nat → Int} (h : Items w wr n n S Q) (hn : n ≤ 1024) (hS : ∀ i, -9223372036854775808 ≤ S i ∧ S i ≤ 9223372036854775807) (hQ : ∀ i, -9223372036854775808 ≤ Q i ∧ Q i ≤ 9223372036854775807) :
    Calls Ybad.prog 7 #[.slice (some ⟨w.heap.size, 0, none⟩) n n, .string ⟨#[44]⟩] wr fun e w' => e = .returned (.string ⟨(built S Q n).toArray⟩) ∧ Below wr.heap.size wr w' := by
  have hlt := h.lt
  obtain ⟨cur, hc, hs, hcs⟩ := h.row
  have hl : ((List.range n).map fun i => pairB (S i) (Q i)).length = n := by simp
  have hb := built_len hS hQ n
  have key := Ybad.strings_Join w.heap.size 0 n ((List.range n).map fun i => pairB (S i) (Q i)) ⟨#[44]⟩ wr (fun j x hx => by
      have hj : j < n := by have := (List.getElem?_eq_some_iff.1 hx).1; simpa using this
      have e : ((List.range n).map fun i => pairB (S i) (Q i))[j]? = some (pairB (S j) (Q j)) := by simp [hj]
      rw [e] at hx
      have := hcs j hj
      obtain rfl := Option.some.inj hx
      simp [World.cell?, hc, this]) hlt (by rw [hl]; omega) (by rw [hl]; exact Nat.le_refl _) (by rw [join_items]; omega)
  rw [join_items, hl] at key
  exact key

set_option maxRecDepth 100000 in
set_option maxHeartbeats 1600000 in
theorem format (Fb N n : Nat) (w : World) (S Q : Nat → Int) (hn : n ≤ 1024) (hS : ∀ i, -9223372036854775808 ≤ S i ∧ S i ≤ 9223372036854775807) (hQ : ∀ i, -9223372036854775808 ≤ Q i ∧ Q i ≤ 9223372036854775807)
    (hf : w.cell? ⟨Fb, 0, none⟩ = some (.slice (some ⟨N, 0, none⟩) n n)) (hp : Pairs w N n S Q) (hN : N < w.heap.size) (ht : Tab w) :
    Calls Ybad.prog 4 #[.pointer (some ⟨Fb, 0, none⟩)] w fun e w' => e = .returned (.string ⟨(built S Q n).toArray⟩) ∧ Below w.heap.size w w' := by
  have hmk := make9 n hn
  have hFb : Fb < w.heap.size := World.block_lt_of_cell? w _ hf
  have HP : Hid _ := hp
  have hS0 : Hid _ := hS
  have hQ0 : Hid _ := hQ
  clear hp hS hQ
  go_enter Ybad.func4, Ybad.ntmps4
  go_wp2_with fail
  go_loopg [15] n (fun g i wr => ∃ k : Nat, g + k = n ∧ i = .int .i64 (k : Int) ∧ Items w wr n k S Q)
  case atStart => exact ⟨0, rfl, rfl, Items.start n S Q ht (by omega)⟩
  case round =>
    obtain ⟨k, hk, rfl, hI⟩ := hrel
    have hlt0 := hI.lt
    by_cases hlt : k < n
    · have hlt' : (k : Int) < (n : Int) := by omega
      obtain ⟨a0, a1⟩ := HP.out k hlt
      have b0 := (hI.below.cell (p := ⟨N, _, none⟩) hN).trans a0
      have b1 := (hI.below.cell (p := ⟨N, _, none⟩) hN).trans a1
      have hNr : N < wr.heap.size := by omega
      have HI : Hid _ := hI
      clear a0 a1 hmk hf
      go_upto_region 5 with fail
      have hwp : Below wr.heap.size wr (wr.alloc (.cells #[.int .i64 (S k), .int .i64 (Q k)] 25)) := (Below.refl _ _).alloc (Nat.le_refl _) _
      have p0 : (wr.alloc (.cells #[.int .i64 (S k), .int .i64 (Q k)] 25)).cell? ⟨wr.heap.size, 0, none⟩ = some (.int .i64 (S k)) := by simp
      have p1 : (wr.alloc (.cells #[.int .i64 (S k), .int .i64 (Q k)] 25)).cell? ⟨wr.heap.size, 1, none⟩ = some (.int .i64 (Q k)) := by simp
      have hszp : (wr.alloc (.cells #[.int .i64 (S k), .int .i64 (Q k)] 25)).heap.size = wr.heap.size + 1 := by simp
      generalize (wr.alloc (.cells #[.int .i64 (S k), .int .i64 (Q k)] 25)) = wp at hwp p0 p1 hszp ⊢
      have htp : Tab wp := hI.tab.kept hwp (by omega)
      have HT : Hid _ := htp
      have HW : Hid _ := hwp
      obtain ⟨A, hA⟩ : ∃ A : ByteArray, A = ⟨(itoa (S k)).toArray⟩ := ⟨_, rfl⟩
      obtain ⟨C, hC⟩ : ∃ C : ByteArray, C = ⟨(itoa (Q k)).toArray⟩ := ⟨_, rfl⟩
      have z1 : A.size ≤ 21 := by rw [hA]; exact itoa_size (hS0.out k)
      have z2 : C.size ≤ 21 := by rw [hC]; exact itoa_size (hQ0.out k)
      have HZ : Hid (∀ w2, Below wr.heap.size wr w2 → Items w (w2.setCell ⟨w.heap.size, k, none⟩ (.string (A ++ ⟨#[58]⟩ ++ C))) n (k + 1) S Q) := fun w2 hb => by rw [hA, hC]; exact hI.step hlt (by omega) hb
      have HA : Hid _ := hA
      have HC : Hid _ := hC
      have s1 : ∀ (j : Nat) (w1 : World), Below wp.heap.size wp.drew w1 → w1.cell? ⟨wr.heap.size, j, none⟩ = wp.cell? ⟨wr.heap.size, j, none⟩ := fun j w1 hb => hb.cell (p := ⟨wr.heap.size, j, none⟩) (by show wr.heap.size < _; omega)
      have H1 : Hid _ := s1
      have hp0 : 0 < wp.heap.size := by omega
      clear hI htp hwp b0 b1 s1 hA hC
      go_region_with (first
        | (go_at_call_of 6 (S k); refine (itoaGoA (S k) A _ (hS0.out k).1 (hS0.out k).2 HA.out ?_).mono ?_; exact HT.out; rintro e w1 ⟨rfl, hb1⟩; have c1 := (H1.out 1 w1 hb1).trans p1)
        | (go_at_call_of 6 (Q k); refine (itoaGoA (Q k) C _ (hQ0.out k).1 (hQ0.out k).2 HC.out ?_).mono ?_; exact tab_after HT.out hb1 hp0; rintro e w2 ⟨rfl, hb2⟩; obtain ⟨v, g0, g1⟩ := Items.cell HI.out hlt (w' := w2) (chain HW.out hb1 hb2)))
      all_goals
        go_wp2_with fail
        go_roundg (gk - 1)
        case measure => omega
        case rel => exact ⟨k + 1, by omega, by go_num, HZ.out w2 (chain HW.out hb1 hb2)⟩
    · have hkn : k = n := by omega
      subst hkn
      have hlt' : ¬ (k : Int) < (k : Int) := by omega
      have hj := items_join hI hn hS0.out hQ0.out
      have HB : Hid _ := hI.below
      clear hk hlt hI hmk hf
      go_wp2_with fail
      refine hj.mono ?_
      rintro e w2 ⟨rfl, hb⟩
      go_wp2_with fail
      go_ret
      exact ⟨rfl, HB.out.trans (hb.mono HB.out.size)⟩
end Go.Proofs.YbulkckqoDoor
