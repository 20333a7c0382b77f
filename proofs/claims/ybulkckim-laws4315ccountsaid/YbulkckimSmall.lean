import Derived.Test.YbulkckimRows
import Derived.WalkKit
import Derived.WalkSpells
import Derived.WalkLawsBesides
import Derived.Deep.LoopGhost
import Derived.Deep.Heap
import Derived.Deep.QuietTactic
import Derived.BigQuiet
import Derived.Outline
import Derived.Laws.AppendOwn
import Derived.LaidEql
namespace Go.Proofs.Ybulkckim
open Go.RowKit

/-- The six IDs. -/
def idB : Nat → ByteArray
  | 0 => ⟨#[48, 48]⟩
  | 1 => ⟨#[48, 49]⟩
  | 2 => ⟨#[48, 50]⟩
  | 3 => ⟨#[49, 48]⟩
  | 4 => ⟨#[49, 49]⟩
  | _ => ⟨#[49, 50]⟩

/-- Bit k of m. -/
def bit (m : Int) (k : Nat) : Bool := bits BinOp.and IntKind.u8 (m / 2 ^ k) 1 == 1

theorem six {p : Nat → Prop} (h0 : p 0) (h1 : p 1) (h2 : p 2) (h3 : p 3) (h4 : p 4) (h5 : p 5) (k : Nat) (hk : k < 6) : p k := by
  match k, hk with
  | 0, _ => exact h0
  | 1, _ => exact h1
  | 2, _ => exact h2
  | 3, _ => exact h3
  | 4, _ => exact h4
  | 5, _ => exact h5

theorem idB_eq : ∀ i, i < 6 → ∀ j, j < 6 → ((idB i).toList == (idB j).toList) = decide (i = j) := by decide +kernel

set_option maxRecDepth 100000 in
theorem bitGo (m : Int) (k : Nat) (w : World) (_h0 : 0 ≤ m) (_h1 : m ≤ 255) (hk : k < 6) :
    Calls Yba.prog 7 #[.int .u8 m, .int .i64 (k : Int)] w fun e w' => e = .returned (.bool (bit m k)) ∧ w' = w := by
  go_enter Yba.func7, Yba.ntmps7
  go_wp2
  go_ret
  exact ⟨rfl, rfl⟩

set_option maxRecDepth 100000 in
theorem digitGo (k l : Nat) (w : World) (hk : k < 6) (hl : l < 2) :
    Calls Yba.prog 9 #[.string (idB k), .int .i64 (l : Int)] w fun e w' => e = .returned (.int .i64 (if l = 0 then ((k / 3 : Nat) : Int) else ((k % 3 : Nat) : Int))) ∧ w' = w := by
  have h : l = 0 ∨ l = 1 := by omega
  rcases h with rfl | rfl
  all_goals
    revert k
    refine six ?_ ?_ ?_ ?_ ?_ ?_
    all_goals
      unfold idB
      go_enter Yba.func9, Yba.ntmps9
      go_wp2
      go_ret
      exact ⟨rfl, rfl⟩

/-- A slice of the six IDs that the call has made itself. -/
def IdRow (n₀ : Nat) (W : World) (v : Value) (A : List Nat) : Prop := W.ownsRow n₀ 36 1 v A.length (A.map fun k => Value.string (idB k))

theorem ownsRow_cases {W : World} {n₀ : Nat} {e : TypeId} {v : Value} {n : Nat} {xs : List Value} (h : W.ownsRow n₀ e 1 v n xs) :
    (v = .slice none 0 0 ∧ n = 0 ∧ xs = []) ∨ ∃ g cap, v = .slice (some ⟨g, 0, none⟩) n cap ∧ n₀ ≤ g ∧ g < W.heap.size ∧ n ≤ cap ∧ cap ≤ maxLen ∧ ∀ i, i < n → W.cell? ⟨g, i, none⟩ = xs[i]? ∧ W.frozen? ⟨g, i, none⟩ = false := by
  obtain ⟨hl, ⟨rfl, rfl⟩ | ⟨g, cap, cur, rfl, hg, hb, h1, h2, h3, h4⟩⟩ := h
  · exact .inl ⟨rfl, rfl, by simpa using hl⟩
  · refine .inr ⟨g, cap, rfl, hg, (Array.getElem?_eq_some_iff.1 hb).1, h1, h2, fun i hi => ?_⟩
    have hi' : i < cur.size := by rw [h3]; omega
    refine ⟨?_, by simp [World.frozen?, hb]⟩
    rw [← h4, List.getElem?_take, if_pos (by omega)]
    simp [World.cell?, hb]

theorem IdRow.cases {n₀ : Nat} {W : World} {v : Value} {A : List Nat} (h : IdRow n₀ W v A) :
    (v = .slice none 0 0 ∧ A = []) ∨ ∃ g cap, v = .slice (some ⟨g, 0, none⟩) A.length cap ∧ n₀ ≤ g ∧ g < W.heap.size ∧ A.length ≤ cap ∧ cap ≤ maxLen ∧ ∀ i (hi : i < A.length), W.cell? ⟨g, i, none⟩ = some (.string (idB A[i])) := by
  rcases ownsRow_cases h with ⟨rfl, h1, _⟩ | ⟨g, cap, rfl, h1, h2, h3, h4, h5⟩
  · exact .inl ⟨rfl, List.length_eq_zero_iff.1 h1⟩
  · refine .inr ⟨g, cap, rfl, h1, h2, h3, h4, fun i hi => ?_⟩
    rw [(h5 i hi).1]
    simp [hi]

set_option maxRecDepth 100000 in
set_option maxHeartbeats 800000 in
theorem indexGo (g cap : Nat) (A : List Nat) (k : Nat) (w : World) (hc : A.length ≤ cap) (hm : cap ≤ maxLen) (hA : ∀ x ∈ A, x < 6) (hk : k < 6)
    (hcell : ∀ i (hi : i < A.length), w.cell? ⟨g, i, none⟩ = some (.string (idB A[i]))) :
    Calls Yba.prog 30 #[.slice (some ⟨g, 0, none⟩) A.length cap, .string (idB k)] w fun e w' => (∃ r : Int, e = .returned (.int .i64 r) ∧ (0 ≤ r ↔ k ∈ A)) ∧ w' = w := by
  obtain ⟨n, hn⟩ : ∃ n, A.length = n := ⟨_, rfl⟩
  obtain ⟨X, hX⟩ : ∃ X, idB k = X := ⟨_, rfl⟩
  have hmm : n ≤ maxLen := by omega
  unfold maxLen at hmm
  have HA : Hid _ := hcell
  have HB : Hid _ := hA
  rw [hn, hX]
  have HX : Hid _ := hX
  clear hX hcell hc hm hA
  go_enter Yba.func30, Yba.ntmps30
  go_wp2_with fail
  go_loopg [8] n (fun q i wr => ∃ j : Nat, q + j = n ∧ i = .int .i64 (j : Int) ∧ wr = w ∧ ∀ i, i < j → A[i]? ≠ some k)
  case atStart => exact ⟨0, rfl, rfl, rfl, fun i hi => by omega⟩
  case round =>
    obtain ⟨j, hj, rfl, rfl, hne⟩ := hrel
    have HN : Hid _ := hne
    have HJ : Hid _ := hj
    clear hne
    by_cases hlt : j < n
    · have hlt' : (j : Int) < (n : Int) := by omega
      have hjA : j < A.length := by omega
      obtain ⟨x, hx⟩ : ∃ x, A[j] = x := ⟨_, rfl⟩
      have hx6 : x < 6 := HB.out x (by rw [← hx]; exact List.getElem_mem hjA)
      have c0 := HA.out j hjA
      rw [hx] at c0
      have heq := idB_eq k hk x hx6
      rw [show idB k = X from HX.out] at heq
      have HE : Hid _ := hx
      clear hx hn hj
      by_cases e : k = x
      · have heq' : (X.toList == (idB x).toList) = true := by rw [heq]; simp [e]
        clear heq
        subst e
        go_wp2_with fail
        go_ret
        have hmem : k ∈ A := by have h : A[j] = k := HE.out; rw [← h]; exact List.getElem_mem hjA
        exact ⟨⟨_, rfl, ⟨fun _ => hmem, fun _ => by omega⟩⟩, rfl⟩
      · have heq' : (X.toList == (idB x).toList) = false := by rw [heq]; simp [e]
        clear heq
        go_wp2_with fail
        go_roundg (gk - 1)
        case measure => have := HJ.out; omega
        case rel => exact ⟨j + 1, by have := HJ.out; omega, by go_num, rfl, fun i hi => by
                      rcases Nat.lt_or_ge i j with h | h
                      · exact HN.out i h
                      · obtain rfl : i = j := by omega
                        rw [List.getElem?_eq_getElem hjA, show A[i] = x from HE.out]
                        intro h'; cases h'; exact e rfl⟩
    · have hjn : j = n := by omega
      subst hjn
      have hlt' : ¬ (j : Int) < (j : Int) := by omega
      clear hj hlt HJ
      go_wp2_with fail
      go_ret
      refine ⟨⟨_, rfl, ⟨fun h => by omega, fun h => ?_⟩⟩, rfl⟩
      obtain ⟨i, hi, hik⟩ := List.getElem_of_mem h
      exact (HN.out i (by omega) (by rw [List.getElem?_eq_getElem hi, hik])).elim

set_option maxRecDepth 100000 in
theorem index_nil (k : Nat) (w : World) :
    Calls Yba.prog 30 #[.slice none 0 0, .string (idB k)] w fun e w' => (∃ r : Int, e = .returned (.int .i64 r) ∧ (0 ≤ r ↔ k ∈ ([] : List Nat))) ∧ w' = w := by
  obtain ⟨X, hX⟩ : ∃ X, idB k = X := ⟨_, rfl⟩
  rw [hX]; clear hX
  go_enter Yba.func30, Yba.ntmps30
  go_wp2_with fail
  refine wp_loop_rounds 1 ?_
  rw [rounds_succ]
  go_wp2_with fail
  go_ret
  exact ⟨⟨_, rfl, by simp⟩, rfl⟩

theorem indexRow {n₀ : Nat} {w : World} {v : Value} {A : List Nat} (h : IdRow n₀ w v A) (hA : ∀ x ∈ A, x < 6) (k : Nat) (hk : k < 6) :
    Calls Yba.prog 30 #[v, .string (idB k)] w fun e w' => (∃ r : Int, e = .returned (.int .i64 r) ∧ (0 ≤ r ↔ k ∈ A)) ∧ w' = w := by
  rcases h.cases with ⟨rfl, rfl⟩ | ⟨g, cap, rfl, _, _, h1, h2, h3⟩
  · exact index_nil k w
  · exact indexGo g cap A k w h1 h2 hA hk h3

set_option maxRecDepth 100000 in
theorem containsRow {n₀ : Nat} {w : World} {v : Value} {A : List Nat} (h : IdRow n₀ w v A) (hA : ∀ x ∈ A, x < 6) (k : Nat) (hk : k < 6) :
    Calls Yba.prog 17 #[v, .string (idB k)] w fun e w' => e = .returned (.bool (decide (k ∈ A))) ∧ w' = w := by
  have hc := indexRow h hA k hk
  obtain ⟨X, hX⟩ : ∃ X, idB k = X := ⟨_, rfl⟩
  rw [hX] at hc ⊢
  clear hX h
  go_enter Yba.func17, Yba.ntmps17
  go_wp2_with fail
  refine hc.mono ?_
  rintro e w1 ⟨⟨r, rfl, hr⟩, rfl⟩
  have HR : Hid _ := hr
  clear hr hc
  go_wp2_with fail
  all_goals go_ret
  all_goals exact ⟨congrArg (fun b => Ending.returned (.bool b)) (decide_eq_decide.2 HR.out), rfl⟩

/-- A slice of pointers to nodes. -/
def NdRow (n₀ : Nat) (W : World) (v : Value) (NB : Nat → Nat) (A : List Nat) : Prop := W.ownsRow n₀ 41 1 v A.length (A.map fun k => Value.pointer (some ⟨NB k, 0, none⟩))

theorem NdRow.cases {n₀ : Nat} {W : World} {v : Value} {NB : Nat → Nat} {A : List Nat} (h : NdRow n₀ W v NB A) :
    (v = .slice none 0 0 ∧ A = []) ∨ ∃ g cap, v = .slice (some ⟨g, 0, none⟩) A.length cap ∧ n₀ ≤ g ∧ g < W.heap.size ∧ A.length ≤ cap ∧ cap ≤ maxLen ∧ ∀ i (hi : i < A.length), W.cell? ⟨g, i, none⟩ = some (.pointer (some ⟨NB A[i], 0, none⟩)) := by
  rcases ownsRow_cases h with ⟨rfl, h1, _⟩ | ⟨g, cap, rfl, h1, h2, h3, h4, h5⟩
  · exact .inl ⟨rfl, List.length_eq_zero_iff.1 h1⟩
  · refine .inr ⟨g, cap, rfl, h1, h2, h3, h4, fun i hi => ?_⟩
    rw [(h5 i hi).1]
    simp [hi]

theorem size110 : (Yba.prog.info? 110).map (fun i => i.size) = some 69 := by kernel_rfl

theorem eqlP_same (a : Addr) (w : World) : (binOp .eql 41 (.pointer (some a)) (.pointer (some a))).run Yba.prog w = .ok (.bool true) w := by
  obtain ⟨i0, hi, _⟩ : ∃ i, Yba.prog.info? 110 = some i ∧ i.size = 69 := by have := size110; rwa [Option.map_eq_some_iff] at this
  have h : ∀ d : Nat, (Op.equalIn (d + 1) 41 (.pointer (some a)) (.pointer (some a))).run Yba.prog w = .ok true w := fun d => by
    simp [Op.equalIn, run_underlying Yba.underlying41, sizeOf, typeInfo, hi, run_sameAddr_same]
  simp only [binOp]
  simp [Op.equal, Op.maxDepth, h 9999]

theorem eqlP_other {a b : Addr} {w : World} {ca cb : Array Value} {ta tb : TypeId} (hne : a ≠ b) (ha : w.heap[a.block]? = some (.cells ca ta (0, 0))) (hb : w.heap[b.block]? = some (.cells cb tb (0, 0))) :
    (binOp .eql 41 (.pointer (some a)) (.pointer (some b))).run Yba.prog w = .ok (.bool false) w := by
  obtain ⟨i0, hi, hz⟩ : ∃ i, Yba.prog.info? 110 = some i ∧ i.size = 69 := by have := size110; rwa [Option.map_eq_some_iff] at this
  have h : ∀ d : Nat, (Op.equalIn (d + 1) 41 (.pointer (some a)) (.pointer (some b))).run Yba.prog w = .ok false w := fun d => by
    simp [Op.equalIn, run_underlying Yba.underlying41, sizeOf, typeInfo, hi, hz, run_sameAddr_other w hne ha hb]
  simp only [binOp]
  simp [Op.equal, Op.maxDepth, h 9999]

set_option maxRecDepth 100000 in
set_option maxHeartbeats 800000 in
theorem indexPGo (NB : Nat → Nat) (g cap : Nat) (A : List Nat) (k : Nat) (w : World) (hc : A.length ≤ cap) (hm : cap ≤ maxLen) (hA : ∀ x ∈ A, x < 6) (hk : k < 6) (hN : ∀ i, i < 6 → ∀ j, j < 6 → NB i = NB j → i = j)
    (hH : ∀ i, i < 6 → ∃ ca, w.heap[NB i]? = some (.cells ca 110 (0, 0))) (hcell : ∀ i (hi : i < A.length), w.cell? ⟨g, i, none⟩ = some (.pointer (some ⟨NB A[i], 0, none⟩))) :
    Calls Yba.prog 42 #[.slice (some ⟨g, 0, none⟩) A.length cap, .pointer (some ⟨NB k, 0, none⟩)] w fun e w' => (∃ r : Int, e = .returned (.int .i64 r) ∧ (0 ≤ r ↔ k ∈ A)) ∧ w' = w := by
  obtain ⟨n, hn⟩ : ∃ n, A.length = n := ⟨_, rfl⟩
  have hmm : n ≤ maxLen := by omega
  unfold maxLen at hmm
  have HA : Hid _ := hcell
  have HB : Hid _ := hA
  have HN0 : Hid _ := hN
  have HH : Hid _ := hH
  rw [hn]
  clear hcell hc hm hA hN hH
  go_enter Yba.func42, Yba.ntmps42
  go_wp2_with fail
  go_loopg [8] n (fun q i wr => ∃ j : Nat, q + j = n ∧ i = .int .i64 (j : Int) ∧ wr = w ∧ ∀ i, i < j → A[i]? ≠ some k)
  case atStart => exact ⟨0, rfl, rfl, rfl, fun i hi => by omega⟩
  case round =>
    obtain ⟨j, hj, rfl, rfl, hne⟩ := hrel
    have HN : Hid _ := hne
    have HJ : Hid _ := hj
    clear hne
    by_cases hlt : j < n
    · have hlt' : (j : Int) < (n : Int) := by omega
      have hjA : j < A.length := by omega
      obtain ⟨x, hx⟩ : ∃ x, A[j] = x := ⟨_, rfl⟩
      have hx6 : x < 6 := HB.out x (by rw [← hx]; exact List.getElem_mem hjA)
      have c0 := HA.out j hjA
      rw [hx] at c0
      have HE : Hid _ := hx
      clear hx hn hj
      by_cases e : k = x
      · subst e
        have hpp := eqlP_same ⟨NB k, 0, none⟩ wr
        go_wp2_with fail
        go_ret
        have hmem : k ∈ A := by have h : A[j] = k := HE.out; rw [← h]; exact List.getElem_mem hjA
        exact ⟨⟨_, rfl, ⟨fun _ => hmem, fun _ => by omega⟩⟩, rfl⟩
      · have hne' : ¬ NB k = NB x := fun h => e (HN0.out k hk x hx6 h)
        obtain ⟨ca, hca⟩ := HH.out k hk
        obtain ⟨cb, hcb⟩ := HH.out x hx6
        have hpp := eqlP_other (a := ⟨NB k, 0, none⟩) (b := ⟨NB x, 0, none⟩) (fun h => hne' (congrArg Addr.block h)) hca hcb
        clear hca hcb hne'
        go_wp2_with fail
        go_roundg (gk - 1)
        case measure => have := HJ.out; omega
        case rel => exact ⟨j + 1, by have := HJ.out; omega, by go_num, rfl, fun i hi => by
                      rcases Nat.lt_or_ge i j with h | h
                      · exact HN.out i h
                      · obtain rfl : i = j := by omega
                        rw [List.getElem?_eq_getElem hjA, show A[i] = x from HE.out]
                        intro h'; cases h'; exact e rfl⟩
    · have hjn : j = n := by omega
      subst hjn
      have hlt' : ¬ (j : Int) < (j : Int) := by omega
      clear hj hlt HJ
      go_wp2_with fail
      go_ret
      refine ⟨⟨_, rfl, ⟨fun h => by omega, fun h => ?_⟩⟩, rfl⟩
      obtain ⟨i, hi, hik⟩ := List.getElem_of_mem h
      exact (HN.out i (by omega) (by rw [List.getElem?_eq_getElem hi, hik])).elim

set_option maxRecDepth 100000 in
theorem containsP {n₀ : Nat} {w : World} {v : Value} {NB : Nat → Nat} {A : List Nat} (h : NdRow n₀ w v NB A) (h0 : A ≠ []) (hA : ∀ x ∈ A, x < 6) (hN : ∀ i, i < 6 → ∀ j, j < 6 → NB i = NB j → i = j) (hH : ∀ i, i < 6 → ∃ ca, w.heap[NB i]? = some (.cells ca 110 (0, 0))) (k : Nat) (hk : k < 6) :
    Calls Yba.prog 27 #[v, .pointer (some ⟨NB k, 0, none⟩)] w fun e w' => e = .returned (.bool (decide (k ∈ A))) ∧ w' = w := by
  rcases h.cases with ⟨rfl, rfl⟩ | ⟨g, cap, hv, _, _, h1, h2, h3⟩
  · exact (h0 rfl).elim
  have hc := indexPGo NB g cap A k w h1 h2 hA hk hN hH h3
  rw [← hv] at hc
  clear hv h h3
  go_enter Yba.func27, Yba.ntmps27
  go_wp2_with fail
  refine hc.mono ?_
  rintro e w1 ⟨⟨r, rfl, hr⟩, rfl⟩
  have HR : Hid _ := hr
  clear hr hc
  go_wp2_with fail
  all_goals go_ret
  all_goals exact ⟨congrArg (fun b => Ending.returned (.bool b)) (decide_eq_decide.2 HR.out), rfl⟩
end Go.Proofs.Ybulkckim
