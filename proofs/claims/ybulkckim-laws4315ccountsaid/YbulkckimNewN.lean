import Derived.Test.YbulkckimPeer
import Derived.Test.YbulkckimMake
namespace Go.Proofs.Ybulkckim
open Go.RowKit Go.Shelf
attribute [local go_sem] Oper.semAt_some

/-- A node in the making: its own block, its peers, its list of those that failed (none). -/
structure Fresh (B : Nat) (w W : World) (N mp fm : Nat) (ca : Array Value) : Prop where
  node : W.heap[N]? = some (.cells ca 110 (0, 0))
  peers : PeersOK B W mp
  failed : W.heap[fm]? = some (.map #[] 0)
  below : Below B w W

theorem node_c8 (T mp fm bq gu wl : Nat) (v : Value) : ((nodeCells T mp fm bq gu wl).setIfInBounds 9 v)[8]? = some (.map (some mp)) ∧ ((nodeCells T mp fm bq gu wl).setIfInBounds 9 v)[9]? = some v ∧ (nodeCells T mp fm bq gu wl)[9]? = some (.int .u64 0) := ⟨rfl, rfl, rfl⟩

set_option maxRecDepth 100000 in
set_option maxHeartbeats 2000000 in
theorem newGo {m₀ : Nat} {w : World} {T E S : Nat} {V U : Nat → Value} {o : Nat} {L : Nat → List Nat} {M : Nat → Nat} (h : TabAt m₀ w T E S V U o L M) (ho : o < 6) (hown : ∀ j, j < 8 → o ∉ L j) :
    Calls Yba.prog 10 #[.pointer (some ⟨T, 0, none⟩), cfg0] w fun e w' => ∃ N mp fm bq gu wl hh, e = .returned (.pointer (some ⟨N, 0, none⟩)) ∧
      Fresh w.heap.size w w' N mp fm ((nodeCells T mp fm bq gu wl).setIfInBounds 9 (.int .u64 hh)) ∧ w.heap.size ≤ N ∧ w.heap.size ≤ mp ∧ w.heap.size ≤ fm ∧ mp ≠ fm := by
  have HN : Hid _ := fun (W : World) (hb : Below w.heap.size w W) => newNodeGo (h.keep hb)
  have HMB : Hid _ := fun W => members_in 9 T W
  have HT : Hid _ := h
  obtain ⟨xs, hxs⟩ : ∃ xs : List K6, xs.map (·.1) = flat L 8 := ⟨(flat L 8).attach.map (fun y => ⟨y.1, by
    have h' := y.2
    simp only [flat, List.mem_flatMap, List.mem_range] at h'
    obtain ⟨j, hj, hy⟩ := h'
    exact h.six j hj _ hy⟩), by simp [List.map_map, Function.comp_def]⟩
  clear h
  refine (callsIn_wide (n := 10)).1 ?_
  refine callsIn_of_wp_marks Yba.func10 rfl trivial ?_ rfl
  simp only [Yba.ntmps10, List.size_toArray, List.length_cons, List.length_nil, Nat.reduceAdd, Nat.reduceSub, Array.replicate_succ, Array.replicate_zero, List.push_toArray, List.append_toArray, List.nil_append, List.cons_append]
  unfold cfg0
  gi_wp2_with fail
  refine ⟨trivial, ?_⟩
  have hb0 : Below w.heap.size w (w.alloc (.cells #[.nilFunc, .bool false, .nilFunc, .nilFunc, .int .i64 0, .nilFunc, .nilFunc, .nilFunc, .nilFunc, .int .i64 0, .pointer none] 59)) := (Below.refl _ _).alloc (Nat.le_refl _) _
  have h0 := heap_alloc_new w (.cells #[.nilFunc, .bool false, .nilFunc, .nilFunc, .int .i64 0, .nilFunc, .nilFunc, .nilFunc, .nilFunc, .int .i64 0, .pointer none] 59)
  generalize hw0 : w.alloc _ = w0 at h0 hb0 ⊢
  refine (callsIn_wide.2 (HN.out w0 hb0)).mono ?_
  rintro e w1 ⟨N, mp, fm, bq, gu, wl, rfl, hnn⟩
  gi_wp2_with fail
  refine ⟨trivial, ?_⟩
  refine (HMB.out _).mono ?_
  rintro e w3 ⟨rfl, hw3⟩
  generalize hp5 : w1.heap.size = p5
  gi_wp2_with fail
  generalize hBt : p5 + 1 = Bt
  rw [← hw3]
  have hbw : w.heap.size ≤ w0.heap.size := hb0.size
  have hb1 : Below w.heap.size w w1 := hb0.trans (hnn.below.mono hbw)
  have hs3 : w3.heap.size = w1.heap.size + 1 + 1 := by rw [hw3]; simp
  have hb3 : Below w.heap.size w w3 := by rw [hw3]; exact (hb1.alloc hb1.size _).alloc (by simp; have := hb1.size; omega) _
  have old : ∀ b ob, w1.heap[b]? = some ob → w3.heap[b]? = some ob := fun b ob hb => by rw [hw3]; exact obj_alloc _ (obj_alloc _ hb)
  have cp5 : w3.heap[p5]? = some (.cells #[.pointer (some ⟨N, 0, none⟩)] 41 (0, 0)) := by rw [hw3, ← hp5]; exact obj_alloc _ (heap_alloc_new _ _)
  have cBt : w3.heap[Bt]? = some (.cells #[.pointer (some ⟨T, 0, none⟩)] 43 (0, 0)) := by rw [hw3, ← hBt, ← hp5]; exact heap_alloc2_new _ _ _
  have ccf : w3.heap[w.heap.size]? = some (.cells #[.nilFunc, .bool false, .nilFunc, .nilFunc, .int .i64 0, .nilFunc, .nilFunc, .nilFunc, .nilFunc, .int .i64 0, .pointer none] 59 (0, 0)) := old _ _ (obj_keep' h0 hnn.below)
  have hn0 : nodeCells T mp fm bq gu wl = (nodeCells T mp fm bq gu wl).setIfInBounds 9 (.int .u64 0) := rfl
  have hF3 : Fresh w.heap.size w w3 N mp fm ((nodeCells T mp fm bq gu wl).setIfInBounds 9 (.int .u64 0)) :=
    ⟨by rw [← hn0]; exact old _ _ hnn.node, ⟨#[], 0, old _ _ hnn.peers, fun e he => by simp at he⟩, old _ _ hnn.failed, hb3⟩
  have lmp3 : mp < w3.heap.size := (Array.getElem?_eq_some_iff.1 (old _ _ hnn.peers)).1
  have lfm3 : fm < w3.heap.size := (Array.getElem?_eq_some_iff.1 (old _ _ hnn.failed)).1
  have lN0 : w.heap.size ≤ N := Nat.le_trans hbw hnn.lN
  have lm0 : w.heap.size ≤ mp := Nat.le_trans hbw hnn.lmp
  have lf0 : w.heap.size ≤ fm := Nat.le_trans hbw hnn.lfm
  have hmf := hnn.ne
  have lBt : Bt < w3.heap.size := (Array.getElem?_eq_some_iff.1 cBt).1
  clear hnn hw3 old hn0 h0 hw0 hp5 hBt
  refine wpIn_rangeFunc_ownG rfl (by omega) (gf := 37) (lb := #[.pointer (some ⟨Bt, 0, none⟩)]) rfl trivial (enters_of Yba.func37 (by kernel_rfl) rfl)
    (members_stops 9 (by omega) Bt w.heap.size m₀ T E S V U o L M xs hxs ho hown w3 lBt hb3.size (by simp [World.cell?, cBt]) (fun W' hW' => HT.out.keep (hb3.trans hW')))
    KpB.trans (fun W l o o' hl ho hc _ => ⟨belowK_b (w := w3) hb3.size W l o o' hl ho hc (by assumption), World.putObj_heap_other (by omega)⟩) (Below.refl _ _) (fun _ => rfl)
    (fun _ W => ∃ hh, Fresh w.heap.size w W N mp fm ((nodeCells T mp fm bq gu wl).setIfInBounds 9 (.int .u64 hh)) ∧ W.heap[p5]? = some (.cells #[.pointer (some ⟨N, 0, none⟩)] 41 (0, 0)) ∧ W.heap[w.heap.size]? = some (.cells #[.nilFunc, .bool false, .nilFunc, .nilFunc, .int .i64 0, .nilFunc, .nilFunc, .nilFunc, .nilFunc, .int .i64 0, .pointer none] 59 (0, 0)) ∧ W.heap[Bt]? = some (.cells #[.pointer (some ⟨T, 0, none⟩)] 43 (0, 0)))
    (fun _ _ _ => False) ?ownI (fun _ _ _ _ _ h _ _ => h) ⟨0, hF3, cp5, ccf, cBt⟩ ?a₁ ?assign ?body ?done ?stop
  case ownI =>
    rintro pre W W' row ⟨hh, ⟨h1, h2, h3, h4⟩, h5, h6, h7⟩ hg hr
    have oc := own_cells hg hr
    have om : ∀ (b : Nat) (ob : Obj), b < w3.heap.size → W.heap[b]? = some ob → W'.heap[b]? = some ob := fun b ob hlt hb => (hg.block b (Array.getElem?_eq_some_iff.1 hb).1 (fun e => by have := (hr b e.symm).1; omega)).trans hb
    obtain ⟨es, c, hm, hes⟩ := h2
    refine ⟨hh, ⟨oc _ _ h1 rfl, ⟨es, c, om _ _ lmp3 hm, fun e he => ⟨(hes e he).1, ?_⟩⟩, om _ _ lfm3 h3, h4.trans (own_below hg hr hb3.size h4.size)⟩, oc _ _ h5 rfl, oc _ _ h6 rfl, oc _ _ h7 rfl⟩
    obtain ⟨b, cur, a1, a2, a3, a4⟩ := (hes e he).2
    exact ⟨b, cur, a1, a2, oc _ _ a3 rfl, a4⟩
  case assign =>
    intro l y W K hK
    gi_wp2
    exact hK
  case body =>
    rintro l pre ⟨k, hk⟩ W ⟨hh, ⟨h1, h2, h3, h4⟩, h5, h6, h7⟩ hlen
    obtain ⟨q8, q9, _⟩ := node_c8 T mp fm bq gu wl (.int .u64 hh)
    have HSN : Hid _ := setSNodeGo w.heap.size N mp _ hh k W h1 q8 q9 h2 h4.size
    have c5 : W.cell? ⟨p5, 0, none⟩ = some (.pointer (some ⟨N, 0, none⟩)) := by simp [World.cell?, h5]
    obtain ⟨X, hX⟩ : ∃ X, idB k = X := ⟨_, rfl⟩
    rw [hX] at HSN
    simp only [hX]
    have H : Hid _ := And.intro h1 (And.intro h2 (And.intro h3 (And.intro h4 (And.intro h5 (And.intro h6 h7)))))
    clear hX h1 h2 h3 h4 h5 h6 h7 q8 q9
    gi_wp2_with fail
    refine ⟨trivial, ?_⟩
    refine (CallsIn.inRound l (callsIn_wide.2 HSN.out)).mono ?_
    rintro e W2 ⟨⟨v, rfl⟩, ⟨h', hN2⟩, hp2, hfr⟩
    have HR : Hid _ := And.intro hN2 (And.intro hp2 hfr)
    clear hN2 hp2 hfr
    gi_wp2
    obtain ⟨h1, h2, h3, h4, h5, h6, h7⟩ := H.out
    obtain ⟨hN2, hp2, hfr⟩ := HR.out
    have hP : ∀ b, PeerP w.heap.size W N mp b → w.heap.size ≤ b := fun b hb => by
      rcases hb with h | h | h
      · omega
      · omega
      · exact h.1
    have hcells : ∀ b, PeerP w.heap.size W N mp b → b ≠ mp → ∃ c t, W.heap[b]? = some (.cells c t (0, 0)) ∧ (t = 110 ∨ t = 122) := fun b hb hne => by
      rcases hb with h | h | ⟨_, c, h⟩
      · exact ⟨_, _, by rw [h]; exact h1, .inl rfl⟩
      · exact (hne h).elim
      · exact ⟨_, _, h, .inr rfl⟩
    have keep : ∀ (b : Nat) (c : Array Value) (t : TypeId), W.heap[b]? = some (.cells c t (0, 0)) → t ≠ 110 → t ≠ 122 → W2.heap[b]? = some (.cells c t (0, 0)) := fun b c t hb ht1 ht2 => hfr.obj hb (fun e => by
      by_cases hm : b = mp
      · obtain ⟨es, cc, hmm, _⟩ := h2; rw [hm, hmm] at hb; cases hb
      · obtain ⟨c', t', hc', ht'⟩ := hcells b e hm
        rw [hb] at hc'; cases hc'
        rcases ht' with h | h
        · exact ht1 h
        · exact ht2 h)
    refine ⟨⟨hfr.size, fun b ob hlt hb hnc => hfr.obj hb (fun e => ?_)⟩, ⟨hfr.below h4.size hP, (keep _ _ _ h7 (by decide) (by decide)).trans h7.symm⟩, h', ⟨?_, hp2, hfr.obj h3 (fun e => ?_), h4.trans (hfr.below h4.size hP)⟩, keep _ _ _ h5 (by decide) (by decide), keep _ _ _ h6 (by decide) (by decide), keep _ _ _ h7 (by decide) (by decide)⟩
    · by_cases hm : b = mp
      · omega
      · obtain ⟨c', t', hc', _⟩ := hcells b e hm
        rw [hc'] at hb; cases hb; cases hnc
    · have := hN2
      simpa using this
    · by_cases hm : fm = mp
      · exact hmf hm.symm
      · obtain ⟨c', t', hc', _⟩ := hcells fm e hm
        rw [hc'] at h3; cases h3
  case stop =>
    rintro D c pre W _ _ h _
    exact h.elim
  case done =>
    rintro D ys W hD rfl ⟨hh, hF, h5, h6, h7⟩ hK
    have c1 : W.cell? ⟨w.heap.size, 1, none⟩ = some (.bool false) := by simp [World.cell?, h6]
    have c5 : W.cell? ⟨p5, 0, none⟩ = some (.pointer (some ⟨N, 0, none⟩)) := by simp [World.cell?, h5]
    have hMk : Marks w.heap.size W.heap.size [{ target := Target.collected D, args := #[] }] W [D] := ⟨rfl, by simp, fun E hE => by
      simp at hE; subst hE
      exact ⟨by have := hb3.size; omega, (Array.getElem?_eq_some_iff.1 hK).1, hK⟩⟩
    have H : Hid _ := And.intro hF hMk
    clear hF hMk h5 h6 h7
    gi_wp2_with fail
    obtain ⟨hF, hMk⟩ := H.out
    refine leaves_marks [D] _ W hMk (fun W5 hfr5 => ?_)
    refine ⟨_, results_tmp rfl _ _ _, ?_⟩
    have hDc : ∀ b, b ∈ [D] → b = D := fun b hb => by simpa using hb
    refine ⟨N, mp, fm, bq, gu, wl, hh, rfl, ⟨hfr5.obj hF.node (fun e => ?_), ?_, hfr5.obj hF.failed (fun e => ?_), hF.below.trans (hfr5.below hF.below.size (fun b hb => (hMk.at' b hb).1))⟩, lN0, lm0, lf0, hmf⟩
    · have := hF.node; rw [hDc _ e, hK] at this; cases this
    · obtain ⟨es, c, hm, hes⟩ := hF.peers
      refine ⟨es, c, hfr5.obj hm (fun e => by rw [hDc _ e, hK] at hm; cases hm), fun e he => ⟨(hes e he).1, ?_⟩⟩
      obtain ⟨b, cur, a1, a2, a3, a4⟩ := (hes e he).2
      exact ⟨b, cur, a1, a2, hfr5.obj a3 (fun e => by rw [hDc _ e, hK] at a3; cases a3), a4⟩
    · have := hF.failed; rw [hDc _ e, hK] at this; cases this
end Go.Proofs.Ybulkckim
