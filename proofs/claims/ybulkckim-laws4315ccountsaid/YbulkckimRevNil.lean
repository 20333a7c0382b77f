import Derived.Test.YbulkckimRevAdd
namespace Go.Proofs.Ybulkckim
open Go.RowKit
open Go.ChangeMaps (setBlock)

set_option maxRecDepth 100000 in
set_option maxHeartbeats 3200000 in
theorem revAdd_nil (B N n : Nat) (X : ByteArray) (o0 : Option Addr) (c0 : Nat) (w : World) (Q : World → Array Value → Prop) (hX : X.size = 2) (hn : n ≤ 10) (h50 : w.cell? ⟨N, 50, none⟩ = some (.slice o0 n c0))
    (HI : Hid (Calls Yba.prog 45 #[.pointer (some ⟨N, 50, none⟩), .string X] w fun e w' => e = .returned (.bool true) ∧ ∃ ca', w'.heap[N]? = some (.cells ca' 110 (0, 0)) ∧ ca'.size = 69 ∧ (∃ o1 c1 n1, n < n1 ∧ ca'[50]? = some (.slice o1 n1 c1)) ∧ ca'[54]? = some (.map none) ∧ B ≤ w'.heap.size ∧ Q w' ca')) :
    Calls Yba.prog 39 #[.pointer (some ⟨N, 50, none⟩), .string X] w fun e w2 => e = .returned (.bool true) ∧ ∃ w' ca' pm, Q w' ca' ∧ w2.heap[N]? = some (.cells (ca'.setIfInBounds 54 (.map (some pm))) 110 (0, 0)) ∧ ByAt B w2 pm 2 ∧ w'.heap.size ≤ pm ∧ Fr (fun b => b = N ∨ (B ≤ b ∧ ∃ cur, w'.heap[b]? = some (.cells cur 3 (0, 0)))) w' w2 := by
  obtain ⟨i0, hi0, hz0, hz1, hz2⟩ := info_parts info3
  have hX' : (X.size : Int) = 2 := by omega
  have hnb : (n : Int) ≤ 10 := by omega
  have hmm := @run_makeMap Yba.prog
  go_enter Yba.func39, Yba.ntmps39
  go_wp2_with fail
  refine Calls.mono HI.out ?_
  rintro e w0 ⟨rfl, ca0, hN0, hsz0, ⟨o1, c1, n1, hn1, a50⟩, b54, hB0, hQ⟩
  have d50 : w0.cell? ⟨N, 50, none⟩ = some (.slice o1 n1 c1) := by simp [World.cell?, hN0, a50]
  have b54' : w0.cell? ⟨N, 54, none⟩ = some (.map none) := by simp [World.cell?, hN0, b54]
  have z54 : w0.frozen? ⟨N, 54, none⟩ = false := by simp [World.frozen?, hN0]
  have lN0 : N < w0.heap.size := (Array.getElem?_eq_some_iff.1 hN0).1
  have t54 : (w0.alloc (.map #[] 0)).cell? ⟨N, 54, none⟩ = some (.map none) := (World.cell?_of_block (w := w0) (w' := w0.alloc _) (a := ⟨N, 54, none⟩) (Below.heap_alloc w0 _ N lN0)).trans b54'
  have s54 : (w0.alloc (.map #[] 0)).frozen? ⟨N, 54, none⟩ = false := by simp [World.frozen?, obj_alloc _ hN0]
  have hq := eqlMap Yba.underlying97 none w0
  simp only [Option.isNone_none] at hq
  have hnl : (n : Int) < (n1 : Int) := by omega
  clear HI
  go_upto_region 6 with fail
  obtain ⟨w1, hw1⟩ : ∃ w1, (w0.setCell ⟨N, 54, none⟩ (.map (some w0.heap.size))).alloc (.map #[] 0) = w1 := ⟨_, rfl⟩
  rw [hw1]
  have hss : (w0.setCell ⟨N, 54, none⟩ (.map (some w0.heap.size))).heap.size = w0.heap.size := by simp [World.setCell]
  have hN1 : w1.heap[N]? = some (.cells (ca0.setIfInBounds 54 (.map (some w0.heap.size))) 110 (0, 0)) := by rw [← hw1]; exact obj_alloc _ (blk_setCell_row hN0 54 _)
  have hat1 : w1.heap[w0.heap.size]? = some (.map #[] 0) := by
    have h := heap_alloc_new (w0.setCell ⟨N, 54, none⟩ (.map (some w0.heap.size))) (.map #[] 0)
    rw [hss, hw1] at h; exact h
  have hB : B ≤ w1.heap.size := by rw [← hw1, World.size_alloc, hss]; omega
  have hfr1 : Fr (fun b => b = N) w0 w1 := by
    rw [← hw1]
    refine ⟨rfl, rfl, rfl, by rw [World.size_alloc, hss]; omega, fun b hb hp => ?_⟩
    rw [Below.heap_alloc _ _ _ (by rw [hss]; exact hb), Below.heap_setCell _ _ _ _ hp]
  have a54 : (ca0.setIfInBounds 54 (.map (some w0.heap.size)))[54]? = some (.map (some w0.heap.size)) := by simp [hsz0]
  obtain ⟨pm, hpm⟩ : ∃ pm, w0.heap.size = pm := ⟨_, rfl⟩
  rw [hpm] at a54 hat1 hN1 ⊢
  obtain ⟨ca1, hca1⟩ : ∃ ca1, ca0.setIfInBounds 54 (.map (some pm)) = ca1 := ⟨_, rfl⟩
  rw [hca1] at hN1 a54
  obtain ⟨L, hL0⟩ : ∃ L, 0 = L := ⟨_, rfl⟩
  have hBy : ByAt B w1 pm L := ⟨#[], 0, hat1, fun e he => by simp at he, fun i hi => by simp at hi, fun i j hi => by simp at hi⟩
  have d54 : w1.cell? ⟨N, 54, none⟩ = some (.map (some pm)) := by simp [World.cell?, hN1, a54]
  have H1 : Hid _ := And.intro hN1 hBy
  have HQ : Hid _ := And.intro hQ (And.intro hca1 (And.intro hfr1 hpm))
  clear hN1 hBy hQ hca1 hfr1 hpm hat1 hss hw1 hN0 b54 b54' z54 t54 s54 lN0 hB0 hsz0 a50 d50 hmm
  have hL : L ≤ 40 := by omega
  have HL0 : Hid _ := hL0
  clear hL0
  go_wp2_with fail
  refine wp_loop_rounds 3 ?_
  rw [rounds_succ]
  go_upto_block 1 with fail
  go_cut [] from 37 to 60 (fun wx => wx.heap[N]? = some (.cells ca1 110 (0, 0)) ∧ ByAt B wx pm (L + 1) ∧ Fr (ByP B w1 pm) w1 wx)
  case first =>
    go_upto_region 10 with fail
    obtain ⟨v, m, xs, hmL, hrow, hlk, hup⟩ := by_put H1.out.2 (X.extract 0 1)
    obtain ⟨vo, vc, hv⟩ : ∃ vo vc, v = .slice vo m vc := by
      rcases ownsRow_cases hrow with ⟨h1, h2, _⟩ | ⟨g, c, h1, _⟩
      · exact ⟨none, 0, by rw [h1, h2]⟩
      · exact ⟨_, _, h1⟩
    subst hv
    have lN : N < w1.heap.size := (Array.getElem?_eq_some_iff.1 H1.out.1).1
    have hl1 := hlk w1.drew rfl
    have lpm : pm < w1.heap.size := by obtain ⟨es, c, h, _⟩ := H1.out.2; exact (Array.getElem?_eq_some_iff.1 h).1
    have hl2 := hlk (w1.alloc (.cells #[.int .i64 (n : Int)] 3)).drew (Below.heap_alloc w1 _ pm lpm)
    have TA : Hid (∀ ob, (w1.alloc ob).drew.cell? ⟨N, 54, none⟩ = some (.map (some pm))) := fun ob => (World.cell?_of_block (w := w1) (w' := w1.alloc ob) (a := ⟨N, 54, none⟩) (Below.heap_alloc w1 ob N lN)).trans d54
    have ta := TA.out (.cells #[.int .i64 (n : Int)] 3)
    have hrN : (Value.slice vo m vc).ownBlock ≠ some N := fun e => by obtain ⟨cc, hc⟩ := row_tag hrow e; rw [H1.out.1] at hc; cases hc
    have hl63 : m + 1 ≤ maxLen := by unfold maxLen; omega
    have HUP : Hid _ := hup
    have HLK : Hid _ := hlk
    clear hup hlk
    go_region_law
      ((refine step_append_lies _ (by rfl) _ _ _ (by rfl) B 3 i0 _ 1 8 Yba.underlying64 hi0 hz0 hz1 hz2 rfl (by omega) (.slice vo m vc) m xs (by rfl) ((hrow.alloc _).drew)
          ⟨w1.heap.size, 0, none⟩ 1 1 [.int .i64 (n : Int)] (by rfl) (by rfl) (World.news_of_block (cs := #[.int .i64 (n : Int)]) (t := 3) (fr := (0, 0)) (heap_alloc_new w1 _)) (by simp [Value.oneCell'])
          (by omega) hl63 (by omega) (by simp; omega) (w1.heap.size + 1) (by simp) ?_; intro gg cap' w3 hown1 hgrow hat hlt;
          have t3 : w3.cell? ⟨N, 54, none⟩ = some (.map (some pm)) := (hgrow.cell_far _ (by simp; omega) (Ne.symm hrN)).trans (TA.out _);
          obtain ⟨ob, hu3, hby3⟩ := HUP.out w3 _ _ (fun b ob hob hne => (hgrow.block b (by simp; have := (Array.getElem?_eq_some_iff.1 hob).1; omega) (Ne.symm hne)).trans ((Below.heap_alloc w1 _ b (Array.getElem?_eq_some_iff.1 hob).1).trans hob)) hown1 (fun g hg => by cases hg; rcases hat with h | h; exact .inl h; exact .inr (Array.getElem?_eq_none (by show w1.heap.size ≤ gg; omega)))))
    all_goals
      have HB3 : Hid _ := And.intro hby3 (And.intro hgrow hat)
      clear hby3 hgrow hat hown1
      go_wp2_with fail
      go_meet
      case rel =>
        obtain ⟨hby3, hgrow, hat⟩ := HB3.out
        exact by_end H1.out.1 H1.out.2 hrow hgrow hby3
  case rest =>
    obtain ⟨hN2, hBy2, hfr2⟩ := hcut
    have e54 : wc.cell? ⟨N, 54, none⟩ = some (.map (some pm)) := by simp [World.cell?, hN2, a54]
    have hBc : B ≤ wc.heap.size := Nat.le_trans hB hfr2.size
    have H2 : Hid _ := And.intro hN2 hBy2
    have HF2 : Hid _ := hfr2
    clear hN2 hBy2 hfr2 d54 hq
    go_wp2_with fail
    rw [rounds_succ]
    go_upto_block 1 with fail
    go_cut [] from 37 to 60 (fun wx => wx.heap[N]? = some (.cells ca1 110 (0, 0)) ∧ ByAt B wx pm (L + 1 + 1) ∧ Fr (ByP B wc pm) wc wx)
    case first =>
      go_upto_region 10 with fail
      obtain ⟨v, m, xs, hmL, hrow, hlk, hup⟩ := by_put H2.out.2 (X.extract 0 2)
      obtain ⟨vo, vc, hv⟩ : ∃ vo vc, v = .slice vo m vc := by
        rcases ownsRow_cases hrow with ⟨h1, h2, _⟩ | ⟨g, c, h1, _⟩
        · exact ⟨none, 0, by rw [h1, h2]⟩
        · exact ⟨_, _, h1⟩
      subst hv
      have lN : N < wc.heap.size := (Array.getElem?_eq_some_iff.1 H2.out.1).1
      have hl1 := hlk wc.drew rfl
      have lpm : pm < wc.heap.size := by obtain ⟨es, c, h, _⟩ := H2.out.2; exact (Array.getElem?_eq_some_iff.1 h).1
      have hl2 := hlk (wc.alloc (.cells #[.int .i64 (n : Int)] 3)).drew (Below.heap_alloc wc _ pm lpm)
      have TA : Hid (∀ ob, (wc.alloc ob).drew.cell? ⟨N, 54, none⟩ = some (.map (some pm))) := fun ob => (World.cell?_of_block (w := wc) (w' := wc.alloc ob) (a := ⟨N, 54, none⟩) (Below.heap_alloc wc ob N lN)).trans e54
      have ta := TA.out (.cells #[.int .i64 (n : Int)] 3)
      have hrN : (Value.slice vo m vc).ownBlock ≠ some N := fun e => by obtain ⟨cc, hc⟩ := row_tag hrow e; rw [H2.out.1] at hc; cases hc
      have hl63 : m + 1 ≤ maxLen := by unfold maxLen; omega
      have HUP : Hid _ := hup
      have HLK : Hid _ := hlk
      clear hup hlk
      go_region_law
        ((refine step_append_lies _ (by rfl) _ _ _ (by rfl) B 3 i0 _ 1 8 Yba.underlying64 hi0 hz0 hz1 hz2 rfl (by omega) (.slice vo m vc) m xs (by rfl) ((hrow.alloc _).drew)
            ⟨wc.heap.size, 0, none⟩ 1 1 [.int .i64 (n : Int)] (by rfl) (by rfl) (World.news_of_block (cs := #[.int .i64 (n : Int)]) (t := 3) (fr := (0, 0)) (heap_alloc_new wc _)) (by simp [Value.oneCell'])
            (by omega) hl63 (by omega) (by simp; omega) (wc.heap.size + 1) (by simp) ?_; intro gg cap' w3 hown1 hgrow hat hlt;
            have t3 : w3.cell? ⟨N, 54, none⟩ = some (.map (some pm)) := (hgrow.cell_far _ (by simp; omega) (Ne.symm hrN)).trans (TA.out _);
            obtain ⟨ob, hu3, hby3⟩ := HUP.out w3 _ _ (fun b ob hob hne => (hgrow.block b (by simp; have := (Array.getElem?_eq_some_iff.1 hob).1; omega) (Ne.symm hne)).trans ((Below.heap_alloc wc _ b (Array.getElem?_eq_some_iff.1 hob).1).trans hob)) hown1 (fun g hg => by cases hg; rcases hat with h | h; exact .inl h; exact .inr (Array.getElem?_eq_none (by show wc.heap.size ≤ gg; omega)))))
      all_goals
        have HB3 : Hid _ := And.intro hby3 (And.intro hgrow hat)
        clear hby3 hgrow hat hown1
        go_wp2_with fail
        go_meet
        case rel =>
          obtain ⟨hby3, hgrow, hat⟩ := HB3.out
          exact by_end H2.out.1 H2.out.2 hrow hgrow hby3
    case rest =>
      rename_i w2
      obtain ⟨hN3, hBy3, hfr3⟩ := hcut
      have HR : Hid _ := And.intro hN3 (And.intro hBy3 hfr3)
      clear hN3 hBy3 hfr3 e54
      go_wp2_with fail
      rw [rounds_succ]
      go_wp2_with fail
      go_ret
      obtain ⟨hN3, hBy3, hfr3⟩ := HR.out
      have hfr2 := HF2.out
      have hL0 : 0 = L := HL0.out
      subst hL0
      obtain ⟨hQ, hca1, hfr1, hpm⟩ := HQ.out
      refine ⟨rfl, w0, ca0, pm, hQ, by rw [hca1]; exact hN3, hBy3, by omega, ?_⟩
      refine ⟨(hfr3.os.trans hfr2.os).trans hfr1.os, (hfr3.tape.trans hfr2.tape).trans hfr1.tape, (hfr3.output.trans hfr2.output).trans hfr1.output, Nat.le_trans hfr1.size (Nat.le_trans hfr2.size hfr3.size), fun b hb hp => ?_⟩
      have hbp : b ≠ pm := by omega
      have h1 := hfr1.block b hb (fun e => hp (.inl e))
      have hb1 : b < w1.heap.size := Nat.lt_of_lt_of_le hb hfr1.size
      have q1 : ¬ ByP B w1 pm b := fun e => by
        rcases e with e | ⟨q, cur, e⟩
        · exact hbp e
        · exact hp (.inr ⟨q, cur, h1.symm.trans e⟩)
      have h2 := hfr2.block b hb1 q1
      refine ((hfr3.block b (Nat.lt_of_lt_of_le hb1 hfr2.size) (fun e => ?_)).trans h2).trans h1
      rcases e with e | ⟨q, cur, e⟩
      · exact hbp e
      · exact hp (.inr ⟨q, cur, (h2.trans h1).symm.trans e⟩)
end Go.Proofs.Ybulkckim
