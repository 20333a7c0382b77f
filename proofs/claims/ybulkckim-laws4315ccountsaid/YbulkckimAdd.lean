import Derived.Test.YbulkckimNew
import Derived.Deep.RegionLaw
import Derived.Deep.DeepCutAuto
namespace Go.Proofs.Ybulkckim
open Go.RowKit

theorem blk_setCell_row {w : World} {b : Nat} {c : Array Value} {t : TypeId} (h : w.heap[b]? = some (.cells c t (0, 0))) (i : Nat) (v : Value) :
    (w.setCell ⟨b, i, none⟩ v).heap[b]? = some (.cells (c.setIfInBounds i v) t (0, 0)) := by
  simp [World.setCell, Array.getElem?_modify, h]

/-- One region of Add: entry j grows by one ID. -/
theorem grow_entry {n₀ : Nat} {W W1 W2 : World} {T E S : Nat} {V U : Nat → Value} {o : Nat} {L : Nat → List Nat} {M : Nat → Nat} (h : TabAt n₀ W T E S V U o L M) {j : Nat} (hj : j < 8) {g cap k : Nat} (hk : k < 6) (hn : n₀ ≤ W.heap.size)
    (hb : Below W.heap.size W W1) (hown : W2.ownsRow n₀ 36 1 (.slice (some ⟨g, 0, none⟩) ((L j).length + 1) cap) ((L j).length + 1) (((L j).map fun k => Value.string (idB k)) ++ [.string (idB k)]))
    (hgr : W1.grownBy W2 (V j).ownBlock) (hat : (V j).ownBlock = some g ∨ g = W1.heap.size) :
    TabAt n₀ (W2.setCell ⟨E, j, none⟩ (.slice (some ⟨g, 0, none⟩) ((L j).length + 1) cap)) T E S (upd V j (.slice (some ⟨g, 0, none⟩) ((L j).length + 1) cap)) U o (upd L j (L j ++ [k])) M ∧
      Below n₀ W (W2.setCell ⟨E, j, none⟩ (.slice (some ⟨g, 0, none⟩) ((L j).length + 1) cap)) := by
  obtain ⟨ce, e1, e2, e3⟩ := h.hE
  have rowlt : ∀ b, (V j).ownBlock = some b → b < W.heap.size ∧ n₀ ≤ b := fun b hb' => by
    obtain ⟨c, hc⟩ := row_tag (h.rV j hj) hb'
    exact ⟨(Array.getElem?_eq_some_iff.1 hc).1, row_ge (h.rV j hj) hb'⟩
  have hEne : (V j).ownBlock ≠ some E := fun e => by obtain ⟨c, hc⟩ := row_tag (h.rV j hj) e; rw [e1] at hc; cases hc
  have hElt := (Array.getElem?_eq_some_iff.1 e1).1
  have old : ∀ b ob, W.heap[b]? = some ob → (V j).ownBlock ≠ some b → W2.heap[b]? = some ob := fun b ob hob hne => by
    have hlt := (Array.getElem?_eq_some_iff.1 hob).1
    rw [hgr.block b (by have := hb.size; omega) (fun e => hne e.symm), hb.block b hlt, hob]
  refine ⟨h.entry hj hk (fun b ob hob hne hbE => ?_) (fun ce' hce' => ?_) ?_ (fun g' hg' => ?_), ?_⟩
  · rw [Below.heap_setCell _ _ _ _ hbE]; exact old b ob hob hne
  · exact blk_setCell_row (old E _ hce' hEne) _ _
  · refine row_other (n := (L j ++ [k]).length) (xs := (L j ++ [k]).map fun k => Value.string (idB k)) (W := W2) ?_ (fun g' hg' => ?_)
    · simpa using hown
    · cases hg'
      exact Below.heap_setCell _ _ _ _ (fun e => by
        rcases hat with h1 | h1
        · exact hEne (by rw [h1]; exact congrArg some e)
        · have := hb.size; simp at e; omega)
  · cases hg'
    rcases hat with h1 | h1
    · exact .inl h1
    · exact .inr (by rw [h1]; exact Array.getElem?_eq_none (by have := hb.size; omega))
  · refine Below.setCell ?_ (show n₀ ≤ E from h.nE) _
    exact ((hb.mono hn)).grown hgr (by have := hb.size; omega) (fun b e => (rowlt b e).2)

theorem grow_state {n₀ : Nat} {W W1 W2 : World} {T E S : Nat} {V U : Nat → Value} {o : Nat} {L : Nat → List Nat} {M : Nat → Nat} (h : TabAt n₀ W T E S V U o L M) {j : Nat} (hj : j < 8) {g cap : Nat} (hn : n₀ ≤ W.heap.size) {xs' : List Value}
    (hb : Below W.heap.size W W1) (hown : W2.ownsRow n₀ 48 1 (.slice (some ⟨g, 0, none⟩) (M j + 1) cap) (M j + 1) xs')
    (hgr : W1.grownBy W2 (U j).ownBlock) (hat : (U j).ownBlock = some g ∨ g = W1.heap.size) :
    TabAt n₀ (W2.setCell ⟨S, j, none⟩ (.slice (some ⟨g, 0, none⟩) (M j + 1) cap)) T E S V (upd U j (.slice (some ⟨g, 0, none⟩) (M j + 1) cap)) o L (upd M j (M j + 1)) ∧
      Below n₀ W (W2.setCell ⟨S, j, none⟩ (.slice (some ⟨g, 0, none⟩) (M j + 1) cap)) := by
  obtain ⟨cs, s1, s2, s3⟩ := h.hS
  obtain ⟨xs0, hx0⟩ := h.rU j hj
  have rowlt : ∀ b, (U j).ownBlock = some b → b < W.heap.size ∧ n₀ ≤ b := fun b hb' => by
    obtain ⟨c, hc⟩ := row_tag hx0 hb'
    exact ⟨(Array.getElem?_eq_some_iff.1 hc).1, row_ge hx0 hb'⟩
  have hSne : (U j).ownBlock ≠ some S := fun e => by obtain ⟨c, hc⟩ := row_tag hx0 e; rw [s1] at hc; cases hc
  have hSlt := (Array.getElem?_eq_some_iff.1 s1).1
  have old : ∀ b ob, W.heap[b]? = some ob → (U j).ownBlock ≠ some b → W2.heap[b]? = some ob := fun b ob hob hne => by
    have hlt := (Array.getElem?_eq_some_iff.1 hob).1
    rw [hgr.block b (by have := hb.size; omega) (fun e => hne e.symm), hb.block b hlt, hob]
  refine ⟨h.state (xs' := xs') hj (fun b ob hob hne hbE => ?_) (fun ce' hce' => ?_) ?_ (fun g' hg' => ?_), ?_⟩
  · rw [Below.heap_setCell _ _ _ _ hbE]; exact old b ob hob hne
  · exact blk_setCell_row (old S _ hce' hSne) _ _
  · refine row_other hown (fun g' hg' => ?_)
    cases hg'
    exact Below.heap_setCell _ _ _ _ (fun e => by
        rcases hat with h1 | h1
        · exact hSne (by rw [h1]; exact congrArg some e)
        · have := hb.size; simp at e; omega)
  · cases hg'
    rcases hat with h1 | h1
    · exact .inl h1
    · exact .inr (by rw [h1]; exact Array.getElem?_eq_none (by have := hb.size; omega))
  · refine Below.setCell ?_ (show n₀ ≤ S from h.nS) _
    exact ((hb.mono hn)).grown hgr (by have := hb.size; omega) (fun b e => (rowlt b e).2)

set_option maxRecDepth 100000 in
set_option maxHeartbeats 3200000 in
theorem addGo {n₀ : Nat} {w : World} {T E S : Nat} {V U : Nat → Value} {o : Nat} {L : Nat → List Nat} {M : Nat → Nat} (h : TabAt n₀ w T E S V U o L M) (k : Nat) (ho : o < 6) (hk : k < 6) (hno : ∀ n, n < 8 → k ∉ L n)
    (hlen : (L (k / 3)).length < 16) (hM : M (k / 3) < 16) (hn : n₀ ≤ w.heap.size) :
    Calls Yba.prog 8 #[.pointer (some ⟨T, 0, none⟩), .int .i64 0, .int .i64 ((k / 3 : Nat) : Int), .string (idB k), .int .u8 1] w fun e w' => e = .returned (.bool true) ∧
      ∃ V' U', TabAt n₀ w' T E S V' U' o (upd L (k / 3) (L (k / 3) ++ [k])) (upd M (k / 3) (M (k / 3) + 1)) ∧ Below n₀ w w' := by
  obtain ⟨j, hjd⟩ : ∃ j, k / 3 = j := ⟨_, rfl⟩
  have hj : j < 8 := by omega
  rw [hjd] at hlen hM ⊢
  clear hjd
  obtain ⟨i0, hi0, hz0, hz1, hz2⟩ := info_parts info36
  obtain ⟨i1, hi1, hy0, hy1, hy2⟩ := info_parts info48
  have HF : Hid _ := fullGo h j hj hlen
  have HC : Hid _ := fun W (hW : TabAt n₀ W T E S V U o L M) => containsRow (hW.rV j hj) (h.six j hj) k hk
  have HH : Hid _ := fun W (hW : TabAt n₀ W T E S V U o L M) => harmonizeGo hW k ho hk hno
  have nj := hno j hj
  obtain ⟨c0, c1, c2, c3, c4, c5⟩ := h.cells
  have hj' : (j : Int) < 8 := by omega
  have HT : Hid _ := h
  obtain ⟨X, hX⟩ : ∃ X, idB k = X := ⟨_, rfl⟩
  have HX : Hid _ := hX
  rw [hX]
  clear h hno hX
  go_enter Yba.func8, Yba.ntmps8
  go_wp2_with fail
  refine Calls.mono HF.out ?_
  rintro e w1 ⟨rfl, m1, hw1⟩
  have h1 : TabAt n₀ w1 T E S V U o L M := by rw [hw1]; exact HT.out.drewN m1
  have b1 : Below w.heap.size w w1 := by rw [hw1]; exact below_drewN _ _
  obtain ⟨d0, d1, d2, d3, d4, d5⟩ := h1.cells
  obtain ⟨e0, f0⟩ := h1.cellE j hj
  obtain ⟨ao, cap, hv⟩ := h1.shape j hj
  have HC1 := HC.out w1 h1
  rw [show idB k = X from HX.out, hv] at HC1
  rw [hv] at e0
  have HB1 : Hid _ := b1
  have HT1 : Hid _ := h1
  clear hw1 b1 h1 c0 c1 c2 c3 c4 c5 HF
  go_wp2_with fail
  refine Calls.mono HC1 ?_
  rintro e w1' ⟨rfl, rfl⟩
  have hdec : decide (k ∈ L j) = false := by simp [nj]
  rw [hdec]
  clear HC1 hdec
  go_wp2_with fail
  have HH1 := HH.out w1' HT1.out
  rw [show idB k = X from HX.out] at HH1
  refine Calls.mono HH1 ?_
  rintro e w2 ⟨rfl, m2, hw2⟩
  have h2 : TabAt n₀ w2 T E S V U o L M := by rw [hw2]; exact HT1.out.drewN m2
  have b2 : Below w.heap.size w w2 := by rw [hw2]; exact HB1.out.trans ((below_drewN _ _).mono HB1.out.size)
  clear d0 d1 d2 d3 d4 d5 e0 f0 HH1 hw2 HT1 HB1 hv
  obtain ⟨d0, d1, d2, d3, d4, d5⟩ := h2.cells
  obtain ⟨e0, f0⟩ := h2.cellE j hj
  obtain ⟨ao, cap, hv⟩ := h2.shape j hj
  have hrow := h2.rV j hj
  unfold IdRow at hrow
  rw [hv] at hrow e0
  have hTE : (V j).ownBlock ≠ some T := fun e => by obtain ⟨c, hc⟩ := row_tag (h2.rV j hj) e; rw [h2.hT] at hc; cases hc
  have hEE : (V j).ownBlock ≠ some E := fun e => by obtain ⟨c, hc⟩ := row_tag (h2.rV j hj) e; obtain ⟨ce, e1, _⟩ := h2.hE; rw [e1] at hc; cases hc
  rw [hv] at hTE hEE
  have lT := World.block_lt_of_cell? w2 _ d4
  have lE := World.block_lt_of_cell? w2 _ e0
  have hn2 : n₀ ≤ w2.heap.size := Nat.le_trans hn b2.size
  have FA : Hid (∀ ob, (w2.alloc ob).drew.frozen? ⟨E, j, none⟩ = false) := fun ob => (World.frozen?_of_block (w := w2) (w' := w2.alloc ob) (a := ⟨E, j, none⟩) (Below.heap_alloc w2 ob E lE)).trans f0
  have HB2 : Hid _ := b2
  have HT2 : Hid _ := h2
  have HV : Hid _ := hv
  have hl63 : (L j).length + 1 ≤ maxLen := by unfold maxLen; omega
  have hlb : ((L j).length + 1) * 16 ≤ 140737488355328 := by omega
  obtain ⟨len, hlenq⟩ : ∃ len, (L j).length = len := ⟨_, rfl⟩
  obtain ⟨xs, hxs⟩ : ∃ xs, ((L j).map fun k => Value.string (idB k)) = xs := ⟨_, rfl⟩
  rw [hlenq] at hl63 hlb e0
  rw [hlenq, hxs] at hrow
  rw [hlenq] at hTE hEE
  have HL : Hid _ := hlenq
  have HXS : Hid _ := hxs
  clear b2 h2 hv hlenq hxs hlen d0 d1 d2 d3 d5
  go_upto_region 5 with fail
  go_cut [] (fun wx => ∃ V', TabAt n₀ wx T E S V' U o (upd L j (L j ++ [k])) M ∧ Below n₀ w wx)
  case first =>
    have TA : Hid (∀ ob, (w2.alloc ob).drew.cell? ⟨T, 4, none⟩ = some (.slice (some ⟨E, 0, none⟩) 8 8)) := fun ob => (World.cell?_of_block (w := w2) (w' := w2.alloc ob) (a := ⟨T, 4, none⟩) (Below.heap_alloc w2 ob T lT)).trans d4
    have EA : Hid (∀ ob, (w2.alloc ob).drew.cell? ⟨E, j, none⟩ = some (.slice ao len cap)) := fun ob => (World.cell?_of_block (w := w2) (w' := w2.alloc ob) (a := ⟨E, j, none⟩) (Below.heap_alloc w2 ob E lE)).trans e0
    have ta := TA.out (.cells #[.string X] 36)
    have ea := EA.out (.cells #[.string X] 36)
    go_region_law
      ((refine step_append_lies _ (by rfl) _ _ _ (by rfl) n₀ 36 i0 _ 1 16 Yba.underlying62 hi0 hz0 hz1 hz2 rfl (by omega) (.slice ao len cap) len xs (by rfl) ((hrow.alloc _).drew)
          ⟨w2.heap.size, 0, none⟩ 1 1 [.string X] (by rfl) (by rfl) (World.news_of_block (cs := #[.string X]) (t := 36) (fr := (0, 0)) (heap_alloc_new w2 _)) (by simp [Value.oneCell'])
          (by omega) hl63 hlb (by simp; omega) (w2.heap.size + 1) (by simp) ?_; intro gg cap' w3 hown1 hgrow hat hlt; have f3 : w3.frozen? ⟨E, j, none⟩ = false := (hgrow.frozen_far _ (by simp; omega) (Ne.symm hEE)).trans (FA.out _);
          have t3 : w3.cell? ⟨T, 4, none⟩ = some (.slice (some ⟨E, 0, none⟩) 8 8) := (hgrow.cell_far _ (by simp; omega) (Ne.symm hTE)).trans (TA.out _);
          have e3 : w3.cell? ⟨E, j, none⟩ = some (.slice ao len cap) := (hgrow.cell_far _ (by simp; omega) (Ne.symm hEE)).trans (EA.out _)))
    all_goals
      go_wp2_with fail
      go_meet
      case rel =>
        have hv : V j = .slice ao (L j).length cap := HV.out
        have hl : (L j).length = len := HL.out
        have hx : ((L j).map fun k => Value.string (idB k)) = xs := HXS.out
        have hX : idB k = X := HX.out
        subst hl hx hX
        rw [← hv] at hgrow hat
        have r := grow_entry HT2.out hj hk hn2 (((Below.refl w2.heap.size w2).alloc (Nat.le_refl _) _).drew) hown1 hgrow (by rcases hat with h | h; exact .inl h; exact .inr (by rw [h]; simp))
        exact ⟨_, r.1, (HB2.out.mono hn).trans r.2⟩
  case rest =>
    obtain ⟨V', h3, b3⟩ := hcut
    clear d4 f0 lT lE hn2 FA HB2 HT2 HV hEE hTE e0 hlb hl63 hrow HL HXS HC HH HT
    obtain ⟨d0, d1, d2, d3, d4, d5⟩ := h3.cells
    obtain ⟨e0, f0⟩ := h3.cellS j hj
    obtain ⟨xs0, hrow⟩ := h3.rU j hj
    obtain ⟨bo, bcap, hv⟩ : ∃ bo bcap, U j = .slice bo (M j) bcap := by
      rcases ownsRow_cases hrow with ⟨h1, h2, _⟩ | ⟨g, c, h1, _⟩
      · exact ⟨none, 0, by rw [h1, h2]⟩
      · exact ⟨_, _, h1⟩
    have hTE : (U j).ownBlock ≠ some T := fun e => by obtain ⟨c, hc⟩ := row_tag hrow e; rw [h3.hT] at hc; cases hc
    have hEE : (U j).ownBlock ≠ some S := fun e => by obtain ⟨c, hc⟩ := row_tag hrow e; obtain ⟨ce, e1, _⟩ := h3.hS; rw [e1] at hc; cases hc
    rw [hv] at hTE hEE e0 hrow
    have lT : T < wc.heap.size := World.block_lt_of_cell? wc _ d5
    have lS : S < wc.heap.size := World.block_lt_of_cell? wc _ e0
    have hn2 : n₀ ≤ wc.heap.size := Nat.le_trans hn b3.size
    have FA : Hid (∀ ob, (wc.alloc ob).drew.frozen? ⟨S, j, none⟩ = false) := fun ob => (World.frozen?_of_block (w := wc) (w' := wc.alloc ob) (a := ⟨S, j, none⟩) (Below.heap_alloc wc ob S lS)).trans f0
    have HB3 : Hid _ := b3
    have HT3 : Hid _ := h3
    have HV : Hid _ := hv
    have hl63 : M j + 1 ≤ maxLen := by unfold maxLen; omega
    have hlb : (M j + 1) * 1 ≤ 140737488355328 := by omega
    obtain ⟨len', hlenq⟩ : ∃ len', M j = len' := ⟨_, rfl⟩
    rw [hlenq] at hl63 hlb e0 hrow hTE hEE
    have HL : Hid _ := hlenq
    clear b3 h3 hv hlenq d0 d1 d2 d3 d4 hM
    have TA : Hid (∀ ob, (wc.alloc ob).drew.cell? ⟨T, 5, none⟩ = some (.slice (some ⟨S, 0, none⟩) 8 8)) := fun ob => (World.cell?_of_block (w := wc) (w' := wc.alloc ob) (a := ⟨T, 5, none⟩) (Below.heap_alloc wc ob T lT)).trans d5
    have EA : Hid (∀ ob, (wc.alloc ob).drew.cell? ⟨S, j, none⟩ = some (.slice bo len' bcap)) := fun ob => (World.cell?_of_block (w := wc) (w' := wc.alloc ob) (a := ⟨S, j, none⟩) (Below.heap_alloc wc ob S lS)).trans e0
    have ta := TA.out (.cells #[.int .u8 1] 48)
    have ea := EA.out (.cells #[.int .u8 1] 48)
    go_upto_region 6 with fail
    go_region_law
      ((refine step_append_lies _ (by rfl) _ _ _ (by rfl) n₀ 48 i1 _ 1 1 Yba.underlying80 hi1 hy0 hy1 hy2 rfl (by omega) (.slice bo len' bcap) len' xs0 (by rfl) ((hrow.alloc _).drew)
          ⟨wc.heap.size, 0, none⟩ 1 1 [.int .u8 1] (by rfl) (by rfl) (World.news_of_block (cs := #[.int .u8 1]) (t := 48) (fr := (0, 0)) (heap_alloc_new wc _)) (by simp [Value.oneCell'])
          (by omega) hl63 hlb (by simp; omega) (wc.heap.size + 1) (by simp) ?_; intro gg cap' w3 hown1 hgrow hat hlt; have f3 : w3.frozen? ⟨S, j, none⟩ = false := (hgrow.frozen_far _ (by simp; omega) (Ne.symm hEE)).trans (FA.out _);
          have t3 : w3.cell? ⟨T, 5, none⟩ = some (.slice (some ⟨S, 0, none⟩) 8 8) := (hgrow.cell_far _ (by simp; omega) (Ne.symm hTE)).trans (TA.out _);
          have e3 : w3.cell? ⟨S, j, none⟩ = some (.slice bo len' bcap) := (hgrow.cell_far _ (by simp; omega) (Ne.symm hEE)).trans (EA.out _)))
    all_goals
      go_wp2_with fail
      go_ret
      have hv : U j = .slice bo (M j) bcap := HV.out
      have hl : M j = len' := HL.out
      subst hl
      rw [← hv] at hgrow hat
      have r := grow_state HT3.out hj hn2 (((Below.refl wc.heap.size wc).alloc (Nat.le_refl _) _).drew) hown1 hgrow (by rcases hat with h | h; exact .inl h; exact .inr (by rw [h]; simp))
      exact ⟨rfl, _, _, r.1, HB3.out.trans r.2⟩
end Go.Proofs.Ybulkckim
