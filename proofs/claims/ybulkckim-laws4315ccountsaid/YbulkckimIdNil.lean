import Derived.Test.YbulkckimIdSet
namespace Go.Proofs.Ybulkckim
open Go.RowKit
open Go.ChangeMaps (setBlock)

theorem lookup_nil {P : Program} (w : World) (t kt et : TypeId) (s : ByteArray) (z : Value) (c : Bool)
    (hm : P.underlying t = some (.map kt et)) (hk : P.underlying kt = some .string) (hz : (zeroValue et).run P w = .ok z w) :
    (Instr.lookup t (.map none) (.string s) c).run P w = .ok (if c then .tuple #[z, .bool false] else z) w := by
  have hc : ∀ e : Bool, (Instr.checkKey e 10000 kt (.string s)).run P w = .ok () w := fun e => MapKept.run_checkKey (k := .string s) hk (by simp [MapKept.IsKey]) e 9999
  have hf : (Instr.findKey kt (.string s) []).run P w = .ok none w := MapKept.run_findKey hk rfl
  cases c <;> simp [Instr.lookup, run_underlying hm, hc, hz, hf, Result.andThen]

set_option maxRecDepth 100000 in
set_option maxHeartbeats 3200000 in
theorem idAdd_nil (B N n : Nat) (ca : Array Value) (X : ByteArray) (W0 : World) (hn0 : Hid (n = 0)) (hB0 : B ≤ W0.heap.size)
    (hN0 : W0.heap[N]? = some (.cells ca 110 (0, 0))) (hsz0 : ca.size = 69) (b50 : ca[50]? = some (.slice none n 0)) (b51 : ca[51]? = some (.map none)) (b52 : ca[52]? = some (.slice none n 0)) (b53 : ca[53]? = some (.int .i64 (n : Int))) :
    Calls Yba.prog 45 #[.pointer (some ⟨N, 50, none⟩), .string X] W0 fun e w' => e = .returned (.bool true) ∧ ∃ v1 v2 atm, w'.heap[N]? = some (.cells ((((ca.setIfInBounds 51 (.map (some atm))).setIfInBounds 50 v1).setIfInBounds 52 v2).setIfInBounds 53 (.int .i64 ((n : Int) + 1))) 110 (0, 0)) ∧ w'.ownsRow B 36 1 v1 (n + 1) [.string X] ∧
      w'.ownsRow B 4 1 v2 (n + 1) [.bool true] ∧ (∃ v b, w'.heap[atm]? = some (.map #[{ key := .string X, val := v, born := b }] 1)) ∧ W0.heap.size ≤ atm ∧ Fr (fun b => b = N) W0 w' := by
    obtain ⟨i0, hi0, hz0, hz1, hz2⟩ := info_parts info36
    obtain ⟨i1, hi1, hy0, hy1, hy2⟩ := info_parts info4
    have hmm := @run_makeMap Yba.prog
    have hn : n ≤ 10 := by have := hn0.out; omega
    have d51' : W0.cell? ⟨N, 51, none⟩ = some (.map none) := by simp [World.cell?, hN0, b51]
    have lN0 : N < W0.heap.size := (Array.getElem?_eq_some_iff.1 hN0).1
    have hq := eqlMap Yba.underlying92 none W0
    simp only [Option.isNone_none] at hq
    have t51 : (W0.alloc (.map #[] 0)).cell? ⟨N, 51, none⟩ = some (.map none) := (World.cell?_of_block (w := W0) (w' := W0.alloc _) (a := ⟨N, 51, none⟩) (Below.heap_alloc W0 _ N lN0)).trans d51'
    have s51 : (W0.alloc (.map #[] 0)).frozen? ⟨N, 51, none⟩ = false := by simp [World.frozen?, obj_alloc _ hN0]
    have hl := lookup_nil (P := Yba.prog) W0 92 36 3 X (.int .i64 0) true Yba.underlying92 Yba.underlying36 (Yba.zeroValue3 W0)
    simp only [if_true] at hl
    go_enter Yba.func45, Yba.ntmps45
    go_upto_region 7 with fail
    obtain ⟨W1, hW1⟩ : ∃ W1, (W0.setCell ⟨N, 51, none⟩ (.map (some W0.heap.size))).alloc (.map #[] 0) = W1 := ⟨_, rfl⟩
    rw [hW1]
    have hN1 : W1.heap[N]? = some (.cells (ca.setIfInBounds 51 (.map (some W0.heap.size))) 110 (0, 0)) := by rw [← hW1]; exact obj_alloc _ (blk_setCell_row hN0 51 _)
    have hss : (W0.setCell ⟨N, 51, none⟩ (.map (some W0.heap.size))).heap.size = W0.heap.size := by simp [World.setCell]
    have hat1 : W1.heap[W0.heap.size]? = some (.map #[] 0) := by
      have h := heap_alloc_new (W0.setCell ⟨N, 51, none⟩ (.map (some W0.heap.size))) (.map #[] 0)
      rw [hss, hW1] at h; exact h
    have hB : B ≤ W1.heap.size := by rw [← hW1, World.size_alloc, hss]; omega
    have hfr1 : Fr (fun b => b = N) W0 W1 := by
      rw [← hW1]
      refine ⟨rfl, rfl, rfl, by rw [World.size_alloc, hss]; omega, fun b hb hp => ?_⟩
      rw [Below.heap_alloc _ _ _ (by rw [hss]; exact hb), Below.heap_setCell _ _ _ _ hp]
    have a50 : (ca.setIfInBounds 51 (.map (some W0.heap.size)))[50]? = some (.slice none n 0) := by rw [Array.getElem?_setIfInBounds_ne (by omega)]; exact b50
    have a52 : (ca.setIfInBounds 51 (.map (some W0.heap.size)))[52]? = some (.slice none n 0) := by rw [Array.getElem?_setIfInBounds_ne (by omega)]; exact b52
    have a53 : (ca.setIfInBounds 51 (.map (some W0.heap.size)))[53]? = some (.int .i64 (n : Int)) := by rw [Array.getElem?_setIfInBounds_ne (by omega)]; exact b53
    have a51 : (ca.setIfInBounds 51 (.map (some W0.heap.size)))[51]? = some (.map (some W0.heap.size)) := by simp [hsz0]
    have hsz : (ca.setIfInBounds 51 (.map (some W0.heap.size))).size = 69 := by simpa using hsz0
    obtain ⟨ca1, hca1⟩ : ∃ ca1, ca.setIfInBounds 51 (.map (some W0.heap.size)) = ca1 := ⟨_, rfl⟩
    rw [hca1] at hN1 a50 a51 a52 a53 hsz
    obtain ⟨atm, hatm⟩ : ∃ atm, W0.heap.size = atm := ⟨_, rfl⟩
    rw [hatm] at a51 hat1 hca1 ⊢
    obtain ⟨es, hes⟩ : ∃ es : Array MapEntry, #[] = es := ⟨_, rfl⟩
    obtain ⟨c, hc⟩ : ∃ c : Nat, 0 = c := ⟨_, rfl⟩
    have hf1 : Instr.findNow .string (.string X) es.toList 0 = some none := by rw [← hes]; rfl
    rw [hes, hc] at hat1
    obtain ⟨fo, hfo⟩ : ∃ fo : Option Addr, none = fo := ⟨_, rfl⟩
    obtain ⟨fc, hfc⟩ : ∃ fc : Nat, 0 = fc := ⟨_, rfl⟩
    have ro1 : W1.ownsRow B 36 1 (.slice fo n fc) n [] := by rw [show n = 0 from hn0.out, ← hfo, ← hfc]; exact World.ownsRow_nil _ _ _ _
    have ri1 : W1.ownsRow B 4 1 (.slice fo n fc) n [] := by rw [show n = 0 from hn0.out, ← hfo, ← hfc]; exact World.ownsRow_nil _ _ _ _
    rw [hfo, hfc] at a50 a52
    have HF : Hid _ := And.intro hfr1 (And.intro hatm (And.intro hca1 (And.intro hes (And.intro hc (And.intro hfo hfc)))))
    have lNa : N < atm := by omega
    have HL : Hid _ := lNa
    have hBa : B ≤ atm := by omega
    clear hfr1 hatm hca1 hes hc hfo hfc hW1 hss t51 s51 hl hq d51' lN0 hN0 b50 b51 b52 b53 hB0 hmm lNa
    obtain ⟨xo, hxo⟩ : ∃ xo : List Value, [] = xo := ⟨_, rfl⟩
    rw [hxo] at ro1 ri1
    have HXO : Hid _ := hxo
    clear hxo
    have bo_ : True := trivial
    have d50 : W1.cell? ⟨N, 50, none⟩ = some (.slice fo n fc) := by simp [World.cell?, hN1, a50]
    have d51 : W1.cell? ⟨N, 51, none⟩ = some (.map (some atm)) := by simp [World.cell?, hN1, a51]
    have lN : N < W1.heap.size := (Array.getElem?_eq_some_iff.1 hN1).1
    have latm : atm < W1.heap.size := (Array.getElem?_eq_some_iff.1 hat1).1
    have hNa : N ≠ atm := fun e => by rw [e, hat1] at hN1; cases hN1
    have hu := update_new (P := Yba.prog) W1 92 36 3 atm es c X (.int .i64 (n : Int)) Yba.underlying92 Yba.underlying36 hat1 hf1
    obtain ⟨W2, hW2⟩ : ∃ W2, setBlock W1 atm (.map (es.push { key := .string X, val := .int .i64 (n : Int), born := c }) (c + 1)) = W2 := ⟨_, rfl⟩
    rw [hW2] at hu
    have hoth : ∀ r, r ≠ atm → W2.heap[r]? = W1.heap[r]? := fun r hr => by rw [← hW2]; exact (MapKept.heap_set hat1).2 r hr
    have hthe : W2.heap[atm]? = some (.map (es.push { key := .string X, val := .int .i64 (n : Int), born := c }) (c + 1)) := by rw [← hW2]; exact (MapKept.heap_set hat1).1
    have hs2 : W2.heap.size = W1.heap.size := by rw [← hW2]; show (Array.setIfInBounds _ _ _).size = _; simp
    have hmeta : W2.os = W1.os ∧ W2.tape = W1.tape ∧ W2.output = W1.output := by rw [← hW2]; exact ⟨rfl, rfl, rfl⟩
    have hN2 : W2.heap[N]? = some (.cells ca1 110 (0, 0)) := (hoth N hNa).trans hN1
    have ro2 : W2.ownsRow B 36 1 (.slice fo n fc) n xo := row_other ro1 fun g hg => hoth g (fun e => by obtain ⟨cc, hc⟩ := row_tag ro1 hg; rw [e, hat1] at hc; cases hc)
    have ri2 : W2.ownsRow B 4 1 (.slice fo n fc) n xo := row_other ri1 fun g hg => hoth g (fun e => by obtain ⟨cc, hc⟩ := row_tag ri1 hg; rw [e, hat1] at hc; cases hc)
    have e50 : W2.cell? ⟨N, 50, none⟩ = some (.slice fo n fc) := by simp [World.cell?, hN2, a50]
    have e51 : W2.cell? ⟨N, 51, none⟩ = some (.map (some atm)) := by simp [World.cell?, hN2, a51]
    have lN2 : N < W2.heap.size := by omega
    have hnb : (n : Int) ≤ 10 := by omega
    have hBs : B ≤ W2.heap.size := by omega
    have HX2 : Hid _ := And.intro hN2 (And.intro ro2 (And.intro ri2 (And.intro hthe (And.intro hoth (And.intro hs2 hmeta)))))
    have hoN : (Value.slice fo n fc).ownBlock ≠ some N := fun e => by obtain ⟨cc, hc⟩ := row_tag ro1 e; rw [hN1] at hc; cases hc
    have hiN : (Value.slice fo n fc).ownBlock ≠ some N := fun e => by obtain ⟨cc, hc⟩ := row_tag ri1 e; rw [hN1] at hc; cases hc
    have hoi : ∀ g, (Value.slice fo n fc).ownBlock = some g → (Value.slice fo n fc).ownBlock ≠ some g := fun g h1 h2 => by obtain ⟨cc, hc⟩ := row_tag ro1 h1; obtain ⟨cd, hd⟩ := row_tag ri1 h2; rw [hc] at hd; cases hd
    have H1 : Hid _ := And.intro hN1 (And.intro ro1 (And.intro ri1 hat1))
    clear hN1 hN2 ro1 ri1 ro2 ri2 hat1 hf1 hthe hoth hmeta hW2 hs2
    go_wp2_with (at_builtin; refine wpList_append_lies _ rfl _ _ _ rfl B 36 i0 _ 1 16 Yba.underlying62 hi0 hz0 hz1 hz2 rfl (by omega) (.slice fo n fc) n xo rfl ?c1 ⟨W2.heap.size, 0, none⟩ 1 1 [.string X] rfl rfl ?c2 ?c3 (by omega) ?c4 ?c5 ?c6 (W2.heap.size + 1) ?c7 ?_)
    case c1 => exact World.ownsRow.alloc HX2.out.2.1 _
    case c2 => exact World.news_of_block (cs := #[.string X]) (t := 36) (fr := (0, 0)) (heap_alloc_new W2 _)
    case c3 => simp [Value.oneCell']
    case c4 => unfold maxLen; omega
    case c5 => omega
    case c6 => simp; omega
    case c7 => simp
    intro g cap w3 hown hgrow hat hlt
    have hN3 : w3.heap[N]? = some (.cells ca1 110 (0, 0)) := (hgrow.block N (by simp; omega) (Ne.symm hoN)).trans ((Below.heap_alloc W2 _ N lN2).trans HX2.out.1)
    have f50 : w3.cell? ⟨N, 50, none⟩ = some (.slice fo n fc) := by simp [World.cell?, hN3, a50]
    have f52 : w3.cell? ⟨N, 52, none⟩ = some (.slice fo n fc) := by simp [World.cell?, hN3, a52]
    have f53 : w3.cell? ⟨N, 53, none⟩ = some (.int .i64 (n : Int)) := by simp [World.cell?, hN3, a53]
    have z50 : w3.frozen? ⟨N, 50, none⟩ = false := by simp [World.frozen?, hN3]
    have z52 : w3.frozen? ⟨N, 52, none⟩ = false := by simp [World.frozen?, hN3]
    have z53 : w3.frozen? ⟨N, 53, none⟩ = false := by simp [World.frozen?, hN3]
    have hgN : g ≠ N := by
      rcases hat with h | h
      · intro e; exact hoN (by rw [h, e])
      · omega
    have hs3 := hgrow.size
    simp only [World.size_alloc] at hs3
    have ri3 : w3.ownsRow B 4 1 (.slice fo n fc) n xo := row_other HX2.out.2.2.1 fun b hb => by
      obtain ⟨cc, hc⟩ := row_tag HX2.out.2.2.1 hb
      rw [hgrow.block b (by simp; have := (Array.getElem?_eq_some_iff.1 hc).1; omega) (fun e => hoi b e.symm hb), Below.heap_alloc _ _ _ (Array.getElem?_eq_some_iff.1 hc).1]
    obtain ⟨w4, hw4⟩ : ∃ w4, w3.setCell ⟨N, 50, none⟩ (.slice (some ⟨g, 0, none⟩) (n + 1) cap) = w4 := ⟨_, rfl⟩
    have hN4 : w4.heap[N]? = some (.cells (ca1.setIfInBounds 50 (.slice (some ⟨g, 0, none⟩) (n + 1) cap)) 110 (0, 0)) := by rw [← hw4]; exact blk_setCell_row hN3 50 _
    have hs4 : w4.heap.size = w3.heap.size := by rw [← hw4]; simp [World.setCell]
    have hf4 : ∀ b, b ≠ N → w4.heap[b]? = w3.heap[b]? := fun b hb => by rw [← hw4]; exact Below.heap_setCell _ _ _ _ hb
    have ri4 : w4.ownsRow B 4 1 (.slice fo n fc) n xo := row_other ri3 fun b hb => hf4 b (fun e => hiN (by rw [hb, e]))
    have ro4 : w4.ownsRow B 36 1 (.slice (some ⟨g, 0, none⟩) (n + 1) cap) (n + 1) (xo ++ [.string X]) := row_other hown fun b hb => by cases hb; exact hf4 g hgN
    have g52 : w4.cell? ⟨N, 52, none⟩ = some (.slice fo n fc) := by simp [World.cell?, hN4, a52]
    have g53 : w4.cell? ⟨N, 53, none⟩ = some (.int .i64 (n : Int)) := by simp [World.cell?, hN4, a53]
    have y52 : w4.frozen? ⟨N, 52, none⟩ = false := by simp [World.frozen?, hN4]
    have y53 : w4.frozen? ⟨N, 53, none⟩ = false := by simp [World.frozen?, hN4]
    have HX4 : Hid _ := And.intro hN4 (And.intro ri4 (And.intro ro4 (And.intro hf4 (And.intro hs4 (And.intro hgrow hat)))))
    have hs4' : B ≤ w4.heap.size := by omega
    clear hN3 ri3 hown hgrow hN4 ri4 ro4 hf4 hat hs4 hs3
    go_wp2_with (at_builtin; refine wpList_append_lies _ rfl _ _ _ rfl B 4 i1 _ 1 1 Yba.underlying93 hi1 hy0 hy1 hy2 rfl (by omega) (.slice fo n fc) n xo rfl ?c1 ⟨w4.heap.size, 0, none⟩ 1 1 [.bool false] rfl rfl ?c2 ?c3 (by omega) ?c4 ?c5 ?c6 (w4.heap.size + 1) ?c7 ?_)
    case c1 => exact World.ownsRow.alloc HX4.out.2.1 _
    case c2 => exact World.news_of_block (cs := #[.bool false]) (t := 4) (fr := (0, 0)) (heap_alloc_new w4 _)
    case c3 => simp [Value.oneCell']
    case c4 => unfold maxLen; omega
    case c5 => omega
    case c6 => simp; omega
    case c7 => simp
    intro g2 cap2 w5 hown2 hgrow2 hat2 hlt2
    obtain ⟨hN4, ri4, ro4, hf4, hs4, hgrow, hat⟩ := HX4.out
    have lN4 : N < w4.heap.size := (Array.getElem?_eq_some_iff.1 hN4).1
    have hN5 : w5.heap[N]? = some (.cells (ca1.setIfInBounds 50 (.slice (some ⟨g, 0, none⟩) (n + 1) cap)) 110 (0, 0)) := (hgrow2.block N (by simp; omega) (Ne.symm hiN)).trans ((Below.heap_alloc w4 _ N lN4).trans hN4)
    have hg2N : g2 ≠ N := by
      rcases hat2 with h | h
      · intro e; exact hiN (by rw [h, e])
      · omega
    have hgi : g ≠ g2 := by
      obtain ⟨co, hco⟩ := row_tag (g := g) ro4 rfl
      rcases hat2 with h | h
      · intro e
        obtain ⟨ci, hci⟩ := row_tag ri4 h
        rw [e, hci] at hco; cases hco
      · have := (Array.getElem?_eq_some_iff.1 hco).1; omega
    have hgig : (Value.slice fo n fc).ownBlock ≠ some g := fun e => by
      obtain ⟨co, hco⟩ := row_tag (g := g) ro4 rfl
      obtain ⟨ci, hci⟩ := row_tag ri4 e
      rw [hci] at hco; cases hco
    have ro5 : w5.ownsRow B 36 1 (.slice (some ⟨g, 0, none⟩) (n + 1) cap) (n + 1) (xo ++ [.string X]) := row_other ro4 fun b hb => by
      cases hb
      obtain ⟨co, hco⟩ := row_tag (g := g) ro4 rfl
      have := (Array.getElem?_eq_some_iff.1 hco).1
      rw [hgrow2.block g (by simp; omega) (Ne.symm hgig), Below.heap_alloc _ _ _ this]
    have k52 : w5.cell? ⟨N, 52, none⟩ = some (.slice fo n fc) := by simp [World.cell?, hN5, a52]
    have j52 : w5.frozen? ⟨N, 52, none⟩ = false := by simp [World.frozen?, hN5]
    obtain ⟨w6, hw6⟩ : ∃ w6, w5.setCell ⟨N, 52, none⟩ (.slice (some ⟨g2, 0, none⟩) (n + 1) cap2) = w6 := ⟨_, rfl⟩
    have hN6 : w6.heap[N]? = some (.cells ((ca1.setIfInBounds 50 (.slice (some ⟨g, 0, none⟩) (n + 1) cap)).setIfInBounds 52 (.slice (some ⟨g2, 0, none⟩) (n + 1) cap2)) 110 (0, 0)) := by rw [← hw6]; exact blk_setCell_row hN5 52 _
    have hf6 : ∀ b, b ≠ N → w6.heap[b]? = w5.heap[b]? := fun b hb => by rw [← hw6]; exact Below.heap_setCell _ _ _ _ hb
    have ri6 : w6.ownsRow B 4 1 (.slice (some ⟨g2, 0, none⟩) (n + 1) cap2) (n + 1) (xo ++ [.bool false]) := row_other hown2 fun b hb => by cases hb; exact hf6 g2 hg2N
    have k6 : w6.cell? ⟨N, 52, none⟩ = some (.slice (some ⟨g2, 0, none⟩) (n + 1) cap2) := by simp [World.cell?, hN6, hsz]
    obtain ⟨vr, k7, j7⟩ : ∃ v, w6.cell? ⟨g2, n, none⟩ = some v ∧ w6.frozen? ⟨g2, n, none⟩ = false := by
      obtain ⟨_, ⟨hh, _⟩ | ⟨g', c', cur, hh, _, hb, _, _, hcs, _⟩⟩ := ri6
      · cases hh
      · cases hh
        exact ⟨cur[n]'(by omega), by simp [World.cell?, hb], by simp [World.frozen?, hb]⟩
    obtain ⟨w7, hw7⟩ : ∃ w7, w6.setCell ⟨g2, n, none⟩ (.bool true) = w7 := ⟨_, rfl⟩
    have hf7 : ∀ b, b ≠ g2 → w7.heap[b]? = w6.heap[b]? := fun b hb => by rw [← hw7]; exact Below.heap_setCell _ _ _ _ hb
    have hN7 : w7.heap[N]? = _ := (hf7 N (Ne.symm hg2N)).trans hN6
    have ri7 : w7.ownsRow B 4 1 (.slice (some ⟨g2, 0, none⟩) (n + 1) cap2) (n + 1) (xo ++ [.bool true]) := by rw [← hw7]; exact row_last ri6
    have k53 : w7.cell? ⟨N, 53, none⟩ = some (.int .i64 (n : Int)) := by simp [World.cell?, hN7, a53]
    have j53 : w7.frozen? ⟨N, 53, none⟩ = false := by simp [World.frozen?, hN7]
    have HX7 : Hid _ := And.intro hN7 (And.intro ri7 (And.intro ro5 (And.intro hf6 (And.intro hf7 (And.intro hgrow2 (And.intro hat2 (And.intro hgi (And.intro hg2N (And.intro hown2 hgig)))))))))
    clear hN4 ri4 ro4 hf4 hs4 hgrow hat hN5 ro5 hN6 hf6 ri6 hf7 hN7 ri7 hgrow2 hat2 hown2
    go_wp2_with fail
    go_ret
    obtain ⟨hN7, ri7, ro5, hf6, hf7, hgrow2, hat2, hgi, hg2N, hown2, hgig⟩ := HX7.out
    obtain ⟨hN4, ri4, ro4, hf4, hs4, hgrow, hat⟩ := HX4.out
    obtain ⟨hN2, ro2, ri2, hthe, hoth, hs2, hm1, hm2, hm3⟩ := HX2.out
    obtain ⟨q1, q2, q3, q4⟩ := H1.out
    have cells_ne : ∀ b, W2.heap[b]? = some (.map (es.push { key := .string X, val := .int .i64 (n : Int), born := c }) (c + 1)) → (Value.slice fo n fc).ownBlock ≠ some b ∧ (Value.slice fo n fc).ownBlock ≠ some b := fun b hb => ⟨fun e => (by obtain ⟨cc, hc⟩ := row_tag ro2 e; rw [hb] at hc; cases hc), fun e => (by obtain ⟨cc, hc⟩ := row_tag ri2 e; rw [hb] at hc; cases hc)⟩
    have step : Fr (fun b => b = N ∨ b = atm ∨ (Value.slice fo n fc).ownBlock = some b ∨ (Value.slice fo n fc).ownBlock = some b) W1 (w7.setCell ⟨N, 53, none⟩ (.int .i64 ((n : Int) + 1))) := by
      have s3 := hgrow.size
      have s5 := hgrow2.size
      have s6 : w6.heap.size = w5.heap.size := by rw [← hw6]; simp [World.setCell]
      have s7 : w7.heap.size = w6.heap.size := by rw [← hw7]; simp [World.setCell]
      simp only [World.size_alloc] at s3 s5
      refine ⟨?_, ?_, ?_, ?_, fun b hb hp => ?_⟩
      · show w7.os = _; rw [← hw7]; show w6.os = _; rw [← hw6]; show w5.os = _; rw [hgrow2.os]; show w4.os = _; rw [← hw4]; show w3.os = _; rw [hgrow.os]; exact hm1
      · show w7.tape = _; rw [← hw7]; show w6.tape = _; rw [← hw6]; show w5.tape = _; rw [hgrow2.tape]; show w4.tape = _; rw [← hw4]; show w3.tape = _; rw [hgrow.tape]; exact hm2
      · show w7.output = _; rw [← hw7]; show w6.output = _; rw [← hw6]; show w5.output = _; rw [hgrow2.output]; show w4.output = _; rw [← hw4]; show w3.output = _; rw [hgrow.output]; exact hm3
      · simp [World.setCell]; omega
      · have n1 : b ≠ N := fun e => hp (.inl e)
        have n2 : b ≠ atm := fun e => hp (.inr (.inl e))
        have n3 : (Value.slice fo n fc).ownBlock ≠ some b := fun e => hp (.inr (.inr (.inl e)))
        have n4 : (Value.slice fo n fc).ownBlock ≠ some b := fun e => hp (.inr (.inr (.inr e)))
        have n5 : b ≠ g2 := fun e => by
          rcases hat2 with h | h
          · exact n4 (by rw [h, e])
          · omega
        rw [Below.heap_setCell _ _ _ _ n1, hf7 b n5, hf6 b n1, hgrow2.block b (by simp; omega) (Ne.symm n4), Below.heap_alloc _ _ _ (by omega), hf4 b n1, hgrow.block b (by simp; omega) (Ne.symm n3), Below.heap_alloc _ _ _ (by omega), hoth b n2]
    obtain ⟨hfr1, hatm, hca1, hes, hc, hfo, hfc⟩ := HF.out
    have hxo : [] = xo := HXO.out
    refine ⟨rfl, .slice (some ⟨g, 0, none⟩) (n + 1) cap, .slice (some ⟨g2, 0, none⟩) (n + 1) cap2, atm, by rw [hca1]; exact blk_setCell_row hN7 53 _, ?_, ?_, ⟨.int .i64 (n : Int), c, ?_⟩, by omega, ?_⟩
    · rw [← hxo] at ro5
      refine row_other ro5 fun b hb => ?_
      cases hb
      rw [Below.heap_setCell _ _ _ _ hgN, hf7 g hgi, hf6 g hgN]
    · rw [← hxo] at ri7
      refine row_other ri7 fun b hb => ?_
      cases hb
      rw [Below.heap_setCell _ _ _ _ hg2N]
    · obtain ⟨n3, n4⟩ := cells_ne atm hthe
      have la2 : atm < W2.heap.size := by omega
      have n5 : atm ≠ g2 := fun e => by
        rcases hat2 with h | h
        · exact n4 (by rw [h, e])
        · have s3 := hgrow.size
          simp only [World.size_alloc] at s3
          omega
      have s3 := hgrow.size
      simp only [World.size_alloc] at s3
      rw [Below.heap_setCell _ _ _ _ (Ne.symm hNa), hf7 atm n5, hf6 atm (Ne.symm hNa), hgrow2.block atm (by simp; omega) (Ne.symm n4), Below.heap_alloc _ _ _ (by omega), hf4 atm (Ne.symm hNa), hgrow.block atm (by simp; omega) (Ne.symm n3), Below.heap_alloc _ _ _ la2]
      rw [hthe, ← hes, ← hc]
      rfl
    · refine ⟨step.os.trans hfr1.os, step.tape.trans hfr1.tape, step.output.trans hfr1.output, Nat.le_trans hfr1.size step.size, fun b hb hp => ?_⟩
      refine (step.block b (Nat.lt_of_lt_of_le hb hfr1.size) ?_).trans (hfr1.block b hb hp)
      rintro (h | h | h | h)
      · exact hp h
      · omega
      · rw [← hfo] at h; cases h
      · rw [← hfo] at h; cases h
end Go.Proofs.Ybulkckim
