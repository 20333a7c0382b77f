import Derived.Test.YbulkckimTab
import Derived.RangeFuncNested
import Derived.RangeFuncBound
import Derived.RangeFuncCalls
import Derived.RangeFuncLeaves
import Derived.Shelf.Abstract
import Derived.Shelf.RegionOpen
import Derived.OwnWalkIn
import Derived.TacticsInMore
import Derived.LoopNIn
import Derived.LoopIn
namespace Go.Proofs.Ybulkckim
open Go.RowKit Go.Shelf
attribute [local go_sem] Oper.semAt_some

/-- An ID's number. -/
abbrev K6 := { k : Nat // k < 6 }

/-- What a round over an iterator of ours keeps: all below n₁, and the iterator's own box. -/
def KpB (n₁ Bt : Nat) (A B : World) : Prop := Below n₁ A B ∧ B.heap[Bt]? = A.heap[Bt]?
theorem KpB.refl (n₁ Bt : Nat) (A : World) : KpB n₁ Bt A A := ⟨Below.refl _ _, rfl⟩
theorem KpB.trans {n₁ Bt : Nat} {A B C : World} (h : KpB n₁ Bt A B) (k : KpB n₁ Bt B C) : KpB n₁ Bt A C := ⟨h.1.trans k.1, k.2.trans h.2⟩

/-- The first j entries' IDs, in order. -/
def flat (L : Nat → List Nat) (j : Nat) : List Nat := (List.range j).flatMap L
theorem flat_succ (L : Nat → List Nat) (j : Nat) : flat L (j + 1) = flat L j ++ L j := by simp [flat, List.range_succ]
theorem flat_prefix (L : Nat → List Nat) {i j : Nat} (h : i ≤ j) : flat L i <+: flat L j := by
  induction j with
  | zero => obtain rfl : i = 0 := by omega
            exact List.prefix_refl _
  | succ j ih =>
    by_cases e : i = j + 1
    · subst e; exact List.prefix_refl _
    · rw [flat_succ]; exact (ih (by omega)).trans (List.prefix_append _ _)

theorem take_succ_of {xs : List K6} {F : List Nat} (hx : xs.map (·.1) = F) {p k : Nat} (hp : F[p]? = some k) (hk : k < 6) : p < xs.length ∧ xs.take (p + 1) = xs.take p ++ [⟨k, hk⟩] := by
  subst hx
  rw [List.getElem?_map] at hp
  cases hq : xs[p]? with
  | none => rw [hq] at hp; cases hp
  | some y =>
    rw [hq] at hp
    simp at hp
    obtain ⟨hlt, he⟩ := List.getElem?_eq_some_iff.1 hq
    refine ⟨hlt, ?_⟩
    rw [List.take_add_one, hq]
    congr 1
    have : y = ⟨k, hk⟩ := Subtype.ext hp
    rw [this]; rfl

theorem flat_at (L : Nat → List Nat) {j i : Nat} (hj : j < 8) (hi : i < (L j).length) : (flat L 8)[(flat L j).length + i]? = some (L j)[i] := by
  obtain ⟨r, hr⟩ := flat_prefix L (show j + 1 ≤ 8 by omega)
  rw [← hr, flat_succ]
  rw [List.append_assoc, List.getElem?_append_right (by omega), Nat.add_sub_cancel_left, List.getElem?_append_left hi, List.getElem?_eq_getElem hi]

set_option maxRecDepth 100000 in
set_option maxHeartbeats 2000000 in
theorem members1_in (n : Nat) (hn : 1 ≤ n) (l Bt n₁ m₀ T E S : Nat) (V U : Nat → Value) (o : Nat) (L : Nat → List Nat) (M : Nat → Nat) (xs : List K6) (hxs : xs.map (·.1) = flat L 8) (ho : o < 6) (hno : ∀ j, j < 8 → o ∉ L j) (J Jx : List K6 → World → Prop)
    (hY : ∀ pre x W, J pre W → pre.length < xs.length → YieldAt Fence.wide (n - 1) Yba.prog l #[.string (idB x.1)] W fun e W' =>
      (e = .returned (.bool true) ∧ J (pre ++ [x]) W' ∧ KpB n₁ Bt W W') ∨ (e = .returned (.bool false) ∧ Jx (pre ++ [x]) W'))
    (W : World) (hBt : W.cell? ⟨Bt, 0, none⟩ = some (.pointer (some ⟨T, 0, none⟩))) (hT : ∀ W', Below n₁ W W' → TabAt m₀ W' T E S V U o L M) (h0 : J [] W) :
    CallsIn Fence.wide n Yba.prog 37 #[.func (.yield l) #[] #[], .pointer (some ⟨Bt, 0, none⟩)] W fun e W' => (∃ v, e = .returned v) ∧
      ((∃ ys, ys = xs ∧ J ys W') ∨ (∃ pre, pre <+: xs ∧ Jx pre W')) := by
  have HT : Hid _ := hT
  have HY : Hid _ := hY
  have ht := hT W (Below.refl _ _)
  obtain ⟨c0, c1, c2, c3, c4, c5⟩ := ht.cells
  clear ht hT hY c1 c2 c3 c5
  refine callsIn_of_wp Yba.func37 rfl trivial ?_ rfl
  simp only [Yba.ntmps37, List.size_toArray, List.length_cons, List.length_nil, Nat.reduceAdd, Nat.reduceSub, Array.replicate_succ, Array.replicate_zero, List.push_toArray, List.append_toArray, List.nil_append, List.cons_append]
  gi_wp2
  gi_loopw [12] (fun i wr => ∃ j : Nat, j ≤ 8 ∧ i = .int .i64 (j : Int) ∧ J (xs.take (flat L j).length) wr ∧ KpB n₁ Bt W wr) (fun i _ => 8 - (intOf i).toNat)
  case atStart => exact ⟨0, by omega, rfl, by simpa [flat] using h0, KpB.refl _ _ _⟩
  case round =>
    obtain ⟨j, hj, rfl, hJ, hK⟩ := hrel
    by_cases hlt : j < 8
    · have ht := HT.out wr hK.1
      have e0 := (ht.cellE j hlt).1
      have hlt' : (j : Int) < 8 := by omega
      have hsix := ht.six j hlt
      have hnoj := hno j hlt
      obtain ⟨len, hlen⟩ : ∃ len, (L j).length = len := ⟨_, rfl⟩
      obtain ⟨pl, hpl⟩ : ∃ pl, (flat L j).length = pl := ⟨_, rfl⟩
      have hpl1 : (flat L (j + 1)).length = pl + len := by rw [flat_succ, List.length_append, hpl, hlen]
      have hat : ∀ q (hq : q < (L j).length), (flat L 8)[pl + q]? = some (L j)[q] := fun q hq => by rw [← hpl]; exact flat_at L hlt hq
      have HAT : Hid _ := hat
      have HSX : Hid _ := hsix
      have HNJ : Hid _ := hnoj
      have HP1 : Hid _ := hpl1
      rcases (ht.rV j hlt).cases with ⟨hv, hL⟩ | ⟨g, cap, hv, hg1, hg2, hcap, hmax, _⟩
      · rw [hv] at e0
        have hl0 : len = 0 := by rw [← hlen, hL]; rfl
        subst hl0
        rw [hpl] at hJ
        clear ht hsix hnoj hat hlen hL hpl1 hno hxs
        gi_wp2
        refine wpIn_loop_rounds 1 ?_
        rw [roundsIn_succ]
        gi_wp2
        go_roundw
        case rel => exact ⟨j + 1, by omega, by go_num, by rw [HP1.out]; exact hJ, hK⟩
        case measure => simp [intOf]; omega
      · rw [hv, hlen] at e0
        have hcells : ∀ wr', KpB n₁ Bt W wr' → ∀ q (hq : q < (L j).length), wr'.cell? ⟨g, q, none⟩ = some (.string (idB (L j)[q])) := fun wr' hK' q hq => by
          rcases ((HT.out wr' hK'.1).rV j hlt).cases with ⟨hv', _⟩ | ⟨g', cap', hv', _, _, _, _, hc⟩
          · rw [hv] at hv'; cases hv'
          · rw [hv] at hv'; cases hv'; exact hc q hq
        have HC : Hid _ := hcells
        have HLN : Hid _ := hlen
        have hmm : len ≤ maxLen := by omega
        unfold maxLen at hmm
        rw [hpl] at hJ
        clear ht hsix hnoj hat hpl1 hno hcells hlen hmax hcap
        gi_wp2
        gi_loopw [18] (fun i wr' => ∃ q : Nat, q ≤ len ∧ i = .int .i64 (q : Int) ∧ J (xs.take (pl + q)) wr' ∧ KpB n₁ Bt W wr') (fun i _ => len - (intOf i).toNat)
        case atStart => exact ⟨0, by omega, rfl, hJ, hK⟩
        case round =>
          clear hJ hK e0
          obtain ⟨q, hq, rfl, hJ, hK⟩ := hrel
          by_cases hql : q < len
          · have hql' : (q : Int) < (len : Int) := by omega
            have hqL : q < (L j).length := by rw [HLN.out]; exact hql
            obtain ⟨k, hk⟩ : ∃ k, (L j)[q] = k := ⟨_, rfl⟩
            have hmem : k ∈ L j := by rw [← hk]; exact List.getElem_mem hqL
            have hk6 : k < 6 := HSX.out k hmem
            have hko : k ≠ o := fun e => HNJ.out (by rw [← e]; exact hmem)
            have hcq := HC.out wr hK q hqL
            rw [hk] at hcq
            obtain ⟨hpx, htk⟩ := take_succ_of hxs (by rw [← hk]; exact HAT.out q hqL) hk6
            have hto := (HT.out wr hK.1).cells.1
            have hbt : wr.cell? ⟨Bt, 0, none⟩ = some (.pointer (some ⟨T, 0, none⟩)) := by
              rw [← hBt]; exact World.cell?_of_block hK.2
            have hne := idB_eq k hk6 o ho
            rw [show decide (k = o) = false by simp [hko]] at hne
            obtain ⟨fn, tmps, assign, body, hy, hR⟩ := HY.out _ ⟨k, hk6⟩ wr hJ (by rw [List.length_take]; omega)
            dsimp only at hy
            have HK : Hid _ := hK
            have HTK : Hid _ := htk
            obtain ⟨X, hX⟩ : ∃ X, idB k = X := ⟨_, rfl⟩
            obtain ⟨Y, hY⟩ : ∃ Y, idB o = Y := ⟨_, rfl⟩
            rw [hX] at hcq hne hy
            rw [hY] at hto hne
            clear hX hY hk hK htk hmem
            gi_wp2
            refine hR.mono ?_
            rintro e W3 (⟨rfl, hJ3, hk3⟩ | ⟨rfl, hJx3⟩)
            · gi_wp2
              go_roundw
              case rel => exact ⟨q + 1, by omega, by go_num, by rw [← Nat.add_assoc, HTK.out]; exact hJ3, KpB.trans HK.out hk3⟩
              case measure => simp [intOf]; omega
            · gi_wp2
              refine bodyPost_ret (results_none rfl _ _ _) rfl ?_
              exact ⟨⟨_, rfl⟩, .inr ⟨_, by rw [← HTK.out]; exact List.take_prefix _ _, hJx3⟩⟩
          · obtain rfl : q = len := by omega
            have hql' : ¬ (q : Int) < (q : Int) := by omega
            clear hq hql HLN
            gi_wp2
            go_roundw
            case rel => exact ⟨j + 1, by omega, by go_num, by rw [HP1.out]; exact hJ, hK⟩
            case measure => simp [intOf]; omega
    · obtain rfl : j = 8 := by omega
      gi_wp2
      go_end0
      refine ⟨⟨_, rfl⟩, .inl ⟨_, ?_, hJ⟩⟩
      rw [List.take_of_length_le]
      rw [← hxs, List.length_map]
      exact Nat.le_refl _

/-- t.Members(). -/
theorem members_in (n T : Nat) (w : World) : CallsIn Fence.wide n Yba.prog 20 #[.pointer (some ⟨T, 0, none⟩)] w fun e w' =>
    e = .returned (.func (.func 37) #[] #[.pointer (some ⟨w.heap.size, 0, none⟩)]) ∧ w' = w.alloc (.cells #[.pointer (some ⟨T, 0, none⟩)] 43) := by
  refine callsIn_of_wp Yba.func20 rfl trivial ?_ rfl
  simp only [Yba.ntmps20, List.size_toArray, List.length_cons, List.length_nil, Nat.reduceAdd, Nat.reduceSub, Array.replicate_succ, Array.replicate_zero, List.push_toArray, List.append_toArray, List.nil_append, List.cons_append]
  gi_wp2
  go_ret
  exact ⟨rfl, rfl⟩

/-- The iterator that t.Members() hands back. -/
theorem members_stops (n : Nat) (hn : 1 ≤ n) (Bt n₁ m₀ T E S : Nat) (V U : Nat → Value) (o : Nat) (L : Nat → List Nat) (M : Nat → Nat) (xs : List K6) (hxs : xs.map (·.1) = flat L 8) (ho : o < 6) (hno : ∀ j, j < 8 → o ∉ L j) (w : World) (hB : Bt < w.heap.size) (hn₁ : n₁ ≤ w.heap.size)
    (hBt : w.cell? ⟨Bt, 0, none⟩ = some (.pointer (some ⟨T, 0, none⟩))) (hT : ∀ W', Below n₁ w W' → TabAt m₀ W' T E S V U o L M) :
    SeqStopsK Fence.wide n Yba.prog 37 #[.pointer (some ⟨Bt, 0, none⟩)] (fun x : K6 => #[Value.string (idB x.1)]) (KpB n₁ Bt) (fun ys => ys = xs) (fun pre => pre <+: xs) xs.length w := fun l J Jx W hW _ _ hY h0 =>
  members1_in n hn l Bt n₁ m₀ T E S V U o L M xs hxs ho hno J Jx hY W ((hW.cell (p := ⟨Bt, 0, none⟩) hB).trans hBt) (fun W' hW' => hT W' ((hW.mono hn₁).trans hW')) h0
end Go.Proofs.Ybulkckim
