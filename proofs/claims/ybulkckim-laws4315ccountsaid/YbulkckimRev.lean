import Derived.Test.YbulkckimMembers
namespace Go.Proofs.Ybulkckim
open Go.RowKit Go.Shelf
attribute [local go_sem] Oper.semAt_some

/-- A node's reverse neighbours, as an iterator reads them. -/
structure RevAt (m₀ : Nat) (W : World) (N : Nat) (ov iv : Value) (R : List Nat) : Prop where
  o : W.cell? ⟨N, 50, none⟩ = some ov
  i : W.cell? ⟨N, 52, none⟩ = some iv
  ro : IdRow m₀ W ov R
  ri : W.ownsRow m₀ 4 1 iv R.length (List.replicate R.length (.bool true))
  six : ∀ x ∈ R, x < 6

theorem RevAt.shapes {m₀ : Nat} {W : World} {N : Nat} {ov iv : Value} {R : List Nat} (h : RevAt m₀ W N ov iv R) :
    (R = [] ∧ ov = .slice none 0 0) ∨ ∃ g gc b bc, ov = .slice (some ⟨g, 0, none⟩) R.length gc ∧ R.length ≤ maxLen ∧ iv = .slice (some ⟨b, 0, none⟩) R.length bc ∨ R = [] := by
  by_cases e : R = []
  · exact .inr ⟨0, 0, 0, 0, .inr e⟩
  · right
    rcases h.ro.cases with ⟨_, h2⟩ | ⟨g, gc, h1, _, _, h3, h4, _⟩
    · exact (e h2).elim
    · rcases ownsRow_cases h.ri with ⟨_, h2, _⟩ | ⟨b, bc, h2, _⟩
      · exact (e (List.length_eq_zero_iff.1 h2)).elim
      · exact ⟨g, gc, b, bc, .inl ⟨h1, by omega, h2⟩⟩

theorem RevAt.cell {m₀ : Nat} {W : World} {N g gc b bc n : Nat} {R : List Nat} (h : RevAt m₀ W N (.slice (some ⟨g, 0, none⟩) n gc) (.slice (some ⟨b, 0, none⟩) n bc) R) {q : Nat} (hq : q < R.length) :
    W.cell? ⟨g, q, none⟩ = some (.string (idB R[q])) ∧ W.cell? ⟨b, q, none⟩ = some (.bool true) := by
  constructor
  · rcases h.ro.cases with ⟨h1, _⟩ | ⟨g', gc', h1, _, _, _, _, hc⟩
    · cases h1
    · cases h1; exact hc q hq
  · rcases ownsRow_cases h.ri with ⟨h1, _⟩ | ⟨b', bc', h1, _, _, _, _, hc⟩
    · cases h1
    · cases h1; rw [(hc q hq).1]; simp [hq]

set_option maxRecDepth 100000 in
set_option maxHeartbeats 2000000 in
theorem all1_in (n : Nat) (hn : 1 ≤ n) (l Bt n₁ m₀ N : Nat) (ov iv : Value) (R : List Nat) (xs : List K6) (hxs : xs.map (·.1) = R) (J Jx : List K6 → World → Prop)
    (hY : ∀ pre x W, J pre W → pre.length < xs.length → YieldAt Fence.wide (n - 1) Yba.prog l #[.string (idB x.1)] W fun e W' =>
      (e = .returned (.bool true) ∧ J (pre ++ [x]) W' ∧ KpB n₁ Bt W W') ∨ (e = .returned (.bool false) ∧ Jx (pre ++ [x]) W'))
    (W : World) (hBt : W.cell? ⟨Bt, 0, none⟩ = some (.pointer (some ⟨N, 50, none⟩))) (hT : ∀ W', Below n₁ W W' → RevAt m₀ W' N ov iv R) (h0 : J [] W) :
    CallsIn Fence.wide n Yba.prog 43 #[.func (.yield l) #[] #[], .pointer (some ⟨Bt, 0, none⟩)] W fun e W' => (∃ v, e = .returned v) ∧
      ((∃ ys, ys = xs ∧ J ys W') ∨ (∃ pre, pre <+: xs ∧ Jx pre W')) := by
  have HT : Hid _ := hT
  have HY : Hid _ := hY
  have ht := hT W (Below.refl _ _)
  have c0 := ht.o
  by_cases e : R = []
  · have hov : ∃ ao cap, ov = .slice ao 0 cap := by
      rcases ht.ro.cases with ⟨h1, _⟩ | ⟨g, gc, h1, _⟩
      · exact ⟨_, _, h1⟩
      · exact ⟨_, _, by rw [h1, e]; rfl⟩
    obtain ⟨ao, cap, hov⟩ := hov
    rw [hov] at c0
    have hx0 : xs = [] := by rw [e] at hxs; exact List.map_eq_nil_iff.1 hxs
    clear ht hT hY hov hxs
    refine callsIn_of_wp Yba.func43 rfl trivial ?_ rfl
    simp only [Yba.ntmps43, List.size_toArray, List.length_cons, List.length_nil, Nat.reduceAdd, Nat.reduceSub, Array.replicate_succ, Array.replicate_zero, List.push_toArray, List.append_toArray, List.nil_append, List.cons_append]
    gi_wp2
    refine wpIn_loop_rounds 1 ?_
    rw [roundsIn_succ]
    gi_wp2
    go_end0
    exact ⟨⟨_, rfl⟩, .inl ⟨_, hx0.symm, h0⟩⟩
  · obtain ⟨g, gc, b, bc, h1, hmm, h2⟩ : ∃ g gc b bc, ov = .slice (some ⟨g, 0, none⟩) R.length gc ∧ R.length ≤ maxLen ∧ iv = .slice (some ⟨b, 0, none⟩) R.length bc := by
      rcases ht.shapes with ⟨h1, _⟩ | ⟨g, gc, b, bc, h | h⟩
      · exact (e h1).elim
      · exact ⟨g, gc, b, bc, h⟩
      · exact (e h).elim
    subst h1 h2
    obtain ⟨len, hlen⟩ : ∃ len, R.length = len := ⟨_, rfl⟩
    rw [hlen] at c0 hmm
    unfold maxLen at hmm
    have HLN : Hid _ := hlen
    rw [hlen] at HT
    clear ht hT hY hlen
    refine callsIn_of_wp Yba.func43 rfl trivial ?_ rfl
    simp only [Yba.ntmps43, List.size_toArray, List.length_cons, List.length_nil, Nat.reduceAdd, Nat.reduceSub, Array.replicate_succ, Array.replicate_zero, List.push_toArray, List.append_toArray, List.nil_append, List.cons_append]
    gi_wp2
    gi_loopw [10] (fun i wr' => ∃ q : Nat, q ≤ len ∧ i = .int .i64 (q : Int) ∧ J (xs.take q) wr' ∧ KpB n₁ Bt W wr') (fun i _ => len - (intOf i).toNat)
    case atStart => exact ⟨0, by omega, rfl, by simpa using h0, KpB.refl _ _ _⟩
    case round =>
      obtain ⟨q, hq, rfl, hJ, hK⟩ := hrel
      by_cases hql : q < len
      · have hql' : (q : Int) < (len : Int) := by omega
        have hqL : q < R.length := by rw [HLN.out]; exact hql
        have ht := HT.out wr hK.1
        obtain ⟨k, hk⟩ : ∃ k, R[q] = k := ⟨_, rfl⟩
        have hmem : k ∈ R := by rw [← hk]; exact List.getElem_mem hqL
        have hk6 : k < 6 := ht.six k hmem
        obtain ⟨hcq, hcb⟩ := ht.cell hqL
        have hci := ht.i
        rw [hk] at hcq
        obtain ⟨hpx, htk⟩ := take_succ_of hxs (by rw [List.getElem?_eq_getElem hqL, hk]) hk6
        have hbt : wr.cell? ⟨Bt, 0, none⟩ = some (.pointer (some ⟨N, 50, none⟩)) := by
          rw [← hBt]; exact World.cell?_of_block hK.2
        obtain ⟨fn, tmps, assign, body, hy, hR⟩ := HY.out _ ⟨k, hk6⟩ wr hJ (by rw [List.length_take]; omega)
        dsimp only at hy
        have HK : Hid _ := hK
        have HTK : Hid _ := htk
        obtain ⟨X, hX⟩ : ∃ X, idB k = X := ⟨_, rfl⟩
        rw [hX] at hcq hy
        clear hX hk hK htk hmem ht
        gi_wp2
        refine hR.mono ?_
        rintro e W3 (⟨rfl, hJ3, hk3⟩ | ⟨rfl, hJx3⟩)
        · gi_wp2
          go_roundw
          case rel => exact ⟨q + 1, by omega, by go_num, by rw [HTK.out]; exact hJ3, KpB.trans HK.out hk3⟩
          case measure => simp [intOf]; omega
        · gi_wp2
          refine bodyPost_ret (results_none rfl _ _ _) rfl ?_
          exact ⟨⟨_, rfl⟩, .inr ⟨_, by rw [← HTK.out]; exact List.take_prefix _ _, hJx3⟩⟩
      · obtain rfl : q = len := by omega
        have hql' : ¬ (q : Int) < (q : Int) := by omega
        have hfin : xs.take q = xs := by
          apply List.take_of_length_le
          have := HLN.out
          rw [← hxs, List.length_map] at this
          omega
        rw [hfin] at hJ
        clear hq hql HLN
        gi_wp2
        go_end0
        exact ⟨⟨_, rfl⟩, .inl hJ⟩

theorem reverse_in (n N : Nat) (w : World) : CallsIn Fence.wide n Yba.prog 13 #[.pointer (some ⟨N, 0, none⟩)] w fun e w' =>
    e = .returned (.func (.func 43) #[] #[.pointer (some ⟨w.heap.size, 0, none⟩)]) ∧ w' = w.alloc (.cells #[.pointer (some ⟨N, 50, none⟩)] 129) := by
  have hc : Calls Yba.prog 28 #[.pointer (some ⟨N, 50, none⟩)] w fun e w' => e = .returned (.func (.func 43) #[] #[.pointer (some ⟨w.heap.size, 0, none⟩)]) ∧ w' = w.alloc (.cells #[.pointer (some ⟨N, 50, none⟩)] 129) := by
    go_enter Yba.func28, Yba.ntmps28
    go_wp2_with fail
    go_ret
    exact ⟨rfl, rfl⟩
  refine callsIn_wide.2 ?_
  go_enter Yba.func13, Yba.ntmps13
  go_wp2_with fail
  refine hc.mono ?_
  rintro e w' ⟨rfl, rfl⟩
  go_wp2_with fail
  go_ret
  exact ⟨rfl, rfl⟩

theorem all_stops (n : Nat) (hn : 1 ≤ n) (Bt n₁ m₀ N : Nat) (ov iv : Value) (R : List Nat) (xs : List K6) (hxs : xs.map (·.1) = R) (w : World) (hB : Bt < w.heap.size) (hn₁ : n₁ ≤ w.heap.size)
    (hBt : w.cell? ⟨Bt, 0, none⟩ = some (.pointer (some ⟨N, 50, none⟩))) (hT : ∀ W', Below n₁ w W' → RevAt m₀ W' N ov iv R) :
    SeqStopsK Fence.wide n Yba.prog 43 #[.pointer (some ⟨Bt, 0, none⟩)] (fun x : K6 => #[Value.string (idB x.1)]) (KpB n₁ Bt) (fun ys => ys = xs) (fun pre => pre <+: xs) xs.length w := fun l J Jx W hW _ _ hY h0 =>
  all1_in n hn l Bt n₁ m₀ N ov iv R xs hxs J Jx hY W ((hW.cell (p := ⟨Bt, 0, none⟩) hB).trans hBt) (fun W' hW' => hT W' ((hW.mono hn₁).trans hW')) h0
end Go.Proofs.Ybulkckim
