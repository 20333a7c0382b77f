import Derived.Test.YbulkckqoDoorProg
import Derived.Test.YbulkckqoDoorPlain
import Derived.WalkKit
import Derived.WalkSpells
import Derived.WalkLawsBesides
import Derived.Deep.LoopGhost
import Derived.Deep.Heap
import Derived.Laws.BytesString
import Derived.Outline
namespace Go.Proofs.YbulkckqoDoor
open Go.RowKit Go.Lib

/-- The buffer at block N: from place i on it holds ds. -/
structure Buf (w wr : World) (i : Nat) (ds : List UInt8) : Prop where
  below : Below w.heap.size w wr
  len : i + ds.length = 24
  row : ∃ cur : Array Value, wr.heap[w.heap.size]? = some (.cells cur 34 (0, 0)) ∧ cur.size = 24 ∧ ∀ t, t < ds.length → cur[i + t]? = some (.int .u8 ((ds.getD t 0).toNat : Int))

theorem blk_setCell_row {w : World} {b : Nat} {c : Array Value} {t : TypeId} (h : w.heap[b]? = some (.cells c t (0, 0))) (i : Nat) (v : Value) :
    (w.setCell ⟨b, i, none⟩ v).heap[b]? = some (.cells (c.setIfInBounds i v) t (0, 0)) := by
  simp [World.setCell, Array.getElem?_modify, h]

theorem Buf.cell {w wr : World} {i : Nat} {ds : List UInt8} (h : Buf w wr i ds) {j : Nat} (hj : j < 24) : (∃ v, wr.cell? ⟨w.heap.size, j, none⟩ = some v) ∧ wr.frozen? ⟨w.heap.size, j, none⟩ = false := by
  obtain ⟨cur, hb, hs, _⟩ := h.row
  exact ⟨⟨cur[j]'(by omega), by simp [World.cell?, hb]⟩, by simp [World.frozen?, hb]⟩

theorem Buf.put {w wr : World} {i : Nat} {ds : List UInt8} (h : Buf w wr (i + 1) ds) (d : UInt8) : Buf w (wr.setCell ⟨w.heap.size, i, none⟩ (.int .u8 (d.toNat : Int))) i (d :: ds) := by
  obtain ⟨cur, hb, hs, hc⟩ := h.row
  have hl := h.len
  refine ⟨h.below.setCell (Nat.le_refl _) _, by simp; omega, ⟨_, blk_setCell_row hb _ _, by simpa using hs, fun t ht => ?_⟩⟩
  cases t with
  | zero => simp [Array.getElem?_setIfInBounds]; omega
  | succ t =>
    rw [Array.getElem?_setIfInBounds_ne (by omega)]
    have := hc t (by simpa using ht)
    rw [show i + (t + 1) = i + 1 + t by omega, this]
    simp

theorem foldl_push (ds : List UInt8) : ∀ s : ByteArray, (ds.map fun d => (d.toNat : Int)).foldl (fun r n => r.push (UInt8.ofNat n.toNat)) s = ⟨s.data ++ ds.toArray⟩ := by
  induction ds with
  | nil => intro s; simp
  | cons d ds ih =>
    intro s
    simp only [List.map_cons, List.foldl_cons, Int.toNat_natCast, UInt8.ofNat_toNat]
    rw [ih]
    simp [ByteArray.push]

/-- 'string(buf[i:])'. -/
theorem Buf.text {w wr : World} {i : Nat} {ds : List UInt8} (h : Buf w wr i ds) (l c : Nat) (hl : l = ds.length) : (convert 27 9 (.slice (some ⟨w.heap.size, i, none⟩) l c)).run Ybad.prog wr = .ok (.string ⟨ds.toArray⟩) wr := by
  subst hl
  obtain ⟨cur, hb, hs, hc⟩ := h.row
  have hlen := h.len
  rw [run_convert_bytes_string wr 27 9 5 _ _ _ Ybad.underlying27 Ybad.underlying5 Ybad.underlying9]
  have hld : (loadCells ⟨w.heap.size, i, none⟩ ds.length).run Ybad.prog wr = .ok ((ds.map fun d => (d.toNat : Int)).map (Value.int .u8)).toArray wr := by
    have hh := run_loadCells_list (P := Ybad.prog) wr ⟨w.heap.size, i, none⟩ ((ds.map fun d => (d.toNat : Int)).map (Value.int .u8)) (fun j v hj => by
      have hj' : j < ds.length := by have := (List.getElem?_eq_some_iff.1 hj).1; simpa using this
      rw [Addr.add_lit]
      have e : ((ds.map fun d => (d.toNat : Int)).map (Value.int .u8))[j]? = some (.int .u8 ((ds.getD j 0).toNat : Int)) := by simp [hj']
      rw [e] at hj
      rw [← hj, ← hc j hj']
      simp [World.cell?, hb])
    simpa using hh
  rw [run_bytesToString wr ⟨w.heap.size, i, none⟩ ds.length c (ds.map fun d => (d.toNat : Int)) hld, foldl_push]
  simp


theorem byte_digit (u : Nat) : ((UInt8.ofNat (48 + u % 10)).toNat : Int) = 48 + (u : Int) % 10 := by
  have : 48 + u % 10 < 256 := by omega
  simp [UInt8.toNat_ofNat', Nat.mod_eq_of_lt this]

theorem Buf.start (w : World) (z : Array Value) (hz : z.size = 24) : Buf w (w.alloc (.cells z 34)) 24 [] :=
  ⟨(Below.refl _ _).alloc (Nat.le_refl _) _, rfl, ⟨z, heap_alloc_new _ _, hz, fun t ht => by simp at ht⟩⟩

theorem D_len {u : Nat} (h : u < 18446744073709551616) : (D u).length ≤ 20 := by
  unfold D
  split
  · simp
  · exact decDigits_len64 h

theorem D_pos {u : Nat} (h : 0 < u) : 0 < (D u).length := by
  rw [D_step (by omega)]; simp

/-- A round: there is room, and the next digit is laid. -/
theorem Buf.round {w wr : World} {k v U : Nat} {ds : List UInt8} (hB : Buf w wr k ds) (hD : D v ++ ds = D U) (hU : U < 18446744073709551616) (hv : 0 < v) :
    ∃ j, k = j + 1 ∧ 4 ≤ j ∧ j < 24 ∧ Buf w (wr.setCell ⟨w.heap.size, j, none⟩ (.int .u8 (48 + (v : Int) % 10))) j (UInt8.ofNat (48 + v % 10) :: ds) ∧ D (v / 10) ++ (UInt8.ofNat (48 + v % 10) :: ds) = D U := by
  have h1 := D_len hU
  have h2 := congrArg List.length hD
  have h3 := D_pos hv
  have h4 := hB.len
  simp only [List.length_append] at h2
  obtain ⟨j, rfl⟩ : ∃ j, k = j + 1 := ⟨k - 1, by omega⟩
  refine ⟨j, rfl, by omega, by omega, ?_, ?_⟩
  · have := hB.put (UInt8.ofNat (48 + v % 10))
    rwa [byte_digit] at this
  · rw [← hD, D_step (u := v) (by omega)]
    simp

theorem Buf.last {w wr : World} {k U : Nat} {ds : List UInt8} (hB : Buf w wr k ds) (hD : D 0 ++ ds = D U) (hU : U < 18446744073709551616) (h0 : 0 < U) : ds = decDigits U ∧ 4 ≤ k ∧ k < 24 ∧ ds.length = 24 - k := by
  have hp := D_pos h0
  have h1 := D_len hU
  have h2 := congrArg List.length hD
  have h4 := hB.len
  have e : ds = D U := by simpa [D] using hD
  simp only [List.length_append] at h2
  have e0 : (D 0).length = 0 := rfl
  refine ⟨?_, by omega, by omega, by omega⟩
  rw [e]; unfold D; rw [if_neg (by omega)]

set_option maxHeartbeats 800000 in
set_option maxRecDepth 100000 in
theorem itoa_pos (U : Nat) (n : Int) (w : World) (h : n = (U : Int)) (h0 : 0 < U) (h1 : U ≤ 9223372036854775807) :
    Calls Ybad.prog 5 #[.int .i64 n] w fun e w' => e = .returned (.string ⟨(itoa n).toArray⟩) ∧ Below w.heap.size w w' := by
  subst h
  have hn : ¬ (U : Int) < 0 := by omega
  have hz : ((U : Int) == 0) = false := by simp; omega
  have hI : itoa (U : Int) = decDigits U := by unfold itoa; rw [if_neg hn]; simp
  rw [hI]
  clear hI
  go_enter Ybad.func5, Ybad.ntmps5
  go_wp2_with fail
  go_loopg [3, 6] 25 (fun g u i wr => ∃ (v k : Nat) (ds : List UInt8), u = .int .u64 (v : Int) ∧ i = .int .i64 (k : Int) ∧ Buf w wr k ds ∧ Hid (D v ++ ds = D U) ∧ k < g ∧ v < 18446744073709551616)
  case atStart => exact ⟨U, 24, [], rfl, rfl, Buf.start _ _ rfl, (by unfold Hid; simp), by omega, by omega⟩
  case round =>
    obtain ⟨v, k, ds, rfl, rfl, hB, hD, hg, hv⟩ := hrel
    by_cases hv0 : 0 < v
    · have hv0' : (0 : Int) < (v : Int) := by omega
      obtain ⟨j, rfl, hj4, hj24, hB', hD'⟩ := hB.round hD.out (by omega) hv0
      obtain ⟨⟨x, c0⟩, f0⟩ := hB.cell hj24
      have HB : Hid _ := hB'
      have HD : Hid _ := hD'
      clear hB hD hB' hD'
      go_wp2_with fail
      go_roundg (gk - 1)
      case measure => omega
      case rel => exact ⟨v / 10, j, _, by go_num, rfl, HB.out, HD, by omega, by omega⟩
    · obtain rfl : v = 0 := by omega
      obtain ⟨rfl, hk4, hk24, hl⟩ := hB.last hD.out (by omega) h0
      have ht := hB.text (24 - k) (24 - k) (by omega)
      have hk24' : (k : Int) ≤ 24 := by omega
      have hne : ¬ 24 = k := by omega
      have HB : Hid _ := hB.below
      clear hB hD hl
      go_wp2_with fail
      go_ret
      exact ⟨rfl, HB.out⟩

set_option maxHeartbeats 800000 in
theorem itoa_zero (w : World) : Calls Ybad.prog 5 #[.int .i64 0] w fun e w' => e = .returned (.string ⟨(itoa 0).toArray⟩) ∧ Below w.heap.size w w' := by
  have hI : itoa 0 = [48] := by decide +kernel
  rw [hI]
  go_enter Ybad.func5, Ybad.ntmps5
  go_wp2
  go_ret
  exact ⟨rfl, Below.refl _ _⟩

set_option maxHeartbeats 800000 in
set_option maxRecDepth 100000 in
theorem itoa_neg (V : Nat) (n : Int) (w : World) (h : n = -(V : Int) - 1) (h1 : V ≤ 9223372036854775807) :
    Calls Ybad.prog 5 #[.int .i64 n] w fun e w' => e = .returned (.string ⟨(itoa n).toArray⟩) ∧ Below w.heap.size w w' := by
  have hn : n < 0 := by omega
  have hn1 : -9223372036854775808 ≤ n := by omega
  have HI : Hid (itoa n = 45 :: decDigits (V + 1)) := by unfold Hid itoa; rw [if_pos hn]; congr 2; omega
  rw [HI.out]
  have hneg : -(n + 1) = (V : Int) := by omega
  have HN : Hid (n = -(V : Int) - 1) := h
  have hV0 : ((V : Int) + 1 == 0) = false := by simp; omega
  clear h HI HN
  go_enter Ybad.func5, Ybad.ntmps5
  go_wp2_with fail
  go_loopg [3, 6] 25 (fun g u i wr => ∃ (v k : Nat) (ds : List UInt8), u = .int .u64 (v : Int) ∧ i = .int .i64 (k : Int) ∧ Buf w wr k ds ∧ Hid (D v ++ ds = D (V + 1)) ∧ k < g ∧ v < 18446744073709551616)
  case atStart => exact ⟨V + 1, 24, [], by go_num, rfl, Buf.start _ _ rfl, (by unfold Hid; simp), by omega, by omega⟩
  case round =>
    obtain ⟨v, k, ds, rfl, rfl, hB, hD, hg, hv⟩ := hrel
    by_cases hv0 : 0 < v
    · have hv0' : (0 : Int) < (v : Int) := by omega
      obtain ⟨j, rfl, hj4, hj24, hB', hD'⟩ := hB.round hD.out (by omega) hv0
      obtain ⟨⟨x, c0⟩, f0⟩ := hB.cell hj24
      have HB : Hid _ := hB'
      have HD : Hid _ := hD'
      clear hB hD hB' hD'
      go_wp2_with fail
      go_roundg (gk - 1)
      case measure => omega
      case rel => exact ⟨v / 10, j, _, by go_num, rfl, HB.out, HD, by omega, by omega⟩
    · obtain rfl : v = 0 := by omega
      obtain ⟨rfl, hk4, hk24, hl⟩ := hB.last hD.out (by omega) (by omega)
      obtain ⟨j, rfl⟩ : ∃ j, k = j + 1 := ⟨k - 1, by omega⟩
      have hB' := hB.put 45
      have e45 : ((45 : UInt8).toNat : Int) = 45 := by decide
      rw [e45] at hB'
      obtain ⟨⟨x, c0⟩, f0⟩ := hB.cell (j := j) (by omega)
      have ht := hB'.text (24 - j) (24 - j) (by simp; omega)
      have hk24' : (j : Int) ≤ 24 := by omega
      have hj24 : j < 24 := by omega
      have hne : ¬ 24 = j := by omega
      have HB : Hid _ := hB'.below
      clear hB hD hl hB'
      go_wp2_with fail
      go_ret
      exact ⟨rfl, HB.out⟩

/-- zzs4330aitoa: the decimal numeral, for every int. -/
theorem itoa_any (n : Int) (w : World) (h0 : -9223372036854775808 ≤ n) (h1 : n ≤ 9223372036854775807) :
    Calls Ybad.prog 5 #[.int .i64 n] w fun e w' => e = .returned (.string ⟨(itoa n).toArray⟩) ∧ Below w.heap.size w w' := by
  rcases Int.lt_trichotomy n 0 with h | h | h
  · exact itoa_neg (-n - 1).toNat n w (by omega) (by omega)
  · subst h; exact itoa_zero w
  · exact itoa_pos n.toNat n w (by omega) (by omega) (by omega)
end Go.Proofs.YbulkckqoDoor
