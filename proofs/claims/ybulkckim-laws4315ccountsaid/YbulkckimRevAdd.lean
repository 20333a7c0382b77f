import Derived.Test.YbulkckimBy
import Derived.Deep.CutBlock
import Derived.Deep.CutRange
import Derived.Deep.RegionLaw
namespace Go.Proofs.Ybulkckim
open Go.RowKit
open Go.ChangeMaps (setBlock)

theorem info3 : (Yba.prog.info? 3).map (fun i => (i.zero, i.size, i.bytes)) = some (some (.int .i64 0), 1, 8) := by kernel_rfl

/-- The blocks that byPrefix's step may turn. -/
def ByP (B : Nat) (W : World) (pm : Nat) (b : Nat) : Prop := b = pm ∨ (B ≤ b ∧ ∃ cur, W.heap[b]? = some (.cells cur 3 (0, 0)))

theorem by_end {B N pm L m : Nat} {w1 w3 : World} {ca1 : Array Value} {v : Value} {xs : List Value} {o1 ob : Obj} (hN : w1.heap[N]? = some (.cells ca1 110 (0, 0))) (hBy : ByAt B w1 pm L) (hrow : w1.ownsRow B 3 1 v m xs)
    (hgrow : (w1.alloc o1).drew.grownBy w3 v.ownBlock) (hby3 : ByAt B (setBlock w3 pm ob) pm (L + 1)) :
    (setBlock w3 pm ob).heap[N]? = some (.cells ca1 110 (0, 0)) ∧ ByAt B (setBlock w3 pm ob) pm (L + 1) ∧ Fr (ByP B w1 pm) w1 (setBlock w3 pm ob) := by
  obtain ⟨es, c, hm, _⟩ := hBy
  have hNp : N ≠ pm := fun e => by rw [e, hm] at hN; cases hN
  have lN := (Array.getElem?_eq_some_iff.1 hN).1
  have hsz := hgrow.size
  have e1 : (w1.alloc o1).drew.heap.size = w1.heap.size + 1 := by show (w1.alloc o1).heap.size = _; simp
  rw [e1] at hsz
  have hset : ∀ r, r ≠ pm → (setBlock w3 pm ob).heap[r]? = w3.heap[r]? := fun r hr => by
    show (w3.heap.setIfInBounds pm ob)[r]? = _
    rw [Array.getElem?_setIfInBounds_ne (Ne.symm hr)]
  have hrN : v.ownBlock ≠ some N := fun e => by obtain ⟨cc, hc⟩ := row_tag hrow e; rw [hN] at hc; cases hc
  refine ⟨?_, hby3, ⟨hgrow.os, hgrow.tape, hgrow.output, ?_, fun b hb hp => ?_⟩⟩
  · rw [hset N hNp, hgrow.block N (by omega) (Ne.symm hrN)]
    exact (Below.heap_alloc w1 _ N lN).trans hN
  · show w1.heap.size ≤ (w3.heap.setIfInBounds pm ob).size
    simp; omega
  · rw [hset b (fun e => hp (.inl e)), hgrow.block b (by omega) (fun e => hp (.inr ⟨row_ge hrow e.symm, row_tag hrow e.symm⟩))]
    exact Below.heap_alloc w1 _ b hb

set_option maxRecDepth 100000 in
set_option maxHeartbeats 3200000 in
theorem revAdd_some (B N n pm L : Nat) (X : ByteArray) (o0 : Option Addr) (c0 : Nat) (w : World) (Q : World → Array Value → Prop) (hX : X.size = 2) (hn : n ≤ 10) (hL : L ≤ 40) (h50 : w.cell? ⟨N, 50, none⟩ = some (.slice o0 n c0))
    (HI : Hid (Calls Yba.prog 45 #[.pointer (some ⟨N, 50, none⟩), .string X] w fun e w' => e = .returned (.bool true) ∧ ∃ ca', w'.heap[N]? = some (.cells ca' 110 (0, 0)) ∧ (∃ o1 c1 n1, n < n1 ∧ ca'[50]? = some (.slice o1 n1 c1)) ∧ ca'[54]? = some (.map (some pm)) ∧ ByAt B w' pm L ∧ B ≤ w'.heap.size ∧ B ≤ pm ∧ Q w' ca')) :
    Calls Yba.prog 39 #[.pointer (some ⟨N, 50, none⟩), .string X] w fun e w2 => e = .returned (.bool true) ∧ ∃ w' ca', Q w' ca' ∧ w2.heap[N]? = some (.cells ca' 110 (0, 0)) ∧ ByAt B w2 pm (L + 2) ∧ Fr (ByP B w' pm) w' w2 := by
  obtain ⟨i0, hi0, hz0, hz1, hz2⟩ := info_parts info3
  have hX' : (X.size : Int) = 2 := by omega
  have hnb : (n : Int) ≤ 10 := by omega
  go_enter Yba.func39, Yba.ntmps39
  go_wp2_with fail
  refine Calls.mono HI.out ?_
  rintro e w1 ⟨rfl, ca1, hN1, ⟨o1, c1, n1, hn1, a50⟩, a54, hBy, hB, hBp, hQ⟩
  have d50 : w1.cell? ⟨N, 50, none⟩ = some (.slice o1 n1 c1) := by simp [World.cell?, hN1, a50]
  have d54 : w1.cell? ⟨N, 54, none⟩ = some (.map (some pm)) := by simp [World.cell?, hN1, a54]
  have hq := eqlMap Yba.underlying97 (some pm) w1
  simp only [Option.isNone_some] at hq
  have H1 : Hid _ := And.intro hN1 (And.intro hBy hQ)
  have hnl : (n : Int) < (n1 : Int) := by omega
  clear hN1 hBy hQ HI
  go_wp2_with fail
  refine wp_loop_rounds 3 ?_
  rw [rounds_succ]
  go_upto_block 1 with fail
  go_cut [] from 37 to 60 (fun wx => wx.heap[N]? = some (.cells ca1 110 (0, 0)) ∧ ByAt B wx pm (L + 1) ∧ Fr (ByP B w1 pm) w1 wx)
  case first =>
    go_upto_region 10 with fail
    obtain ⟨v, m, xs, hmL, hrow, hlk, hup⟩ := by_put H1.out.2.1 (X.extract 0 1)
    obtain ⟨vo, vc, hv⟩ : ∃ vo vc, v = .slice vo m vc := by
      rcases ownsRow_cases hrow with ⟨h1, h2, _⟩ | ⟨g, c, h1, _⟩
      · exact ⟨none, 0, by rw [h1, h2]⟩
      · exact ⟨_, _, h1⟩
    subst hv
    have lN : N < w1.heap.size := (Array.getElem?_eq_some_iff.1 H1.out.1).1
    have hl1 := hlk w1.drew rfl
    have lpm : pm < w1.heap.size := by obtain ⟨es, c, h, _⟩ := H1.out.2.1; exact (Array.getElem?_eq_some_iff.1 h).1
    have hl2 := hlk (w1.alloc (.cells #[.int .i64 (n : Int)] 3)).drew (Below.heap_alloc w1 _ pm lpm)
    have TA : Hid (∀ ob, (w1.alloc ob).drew.cell? ⟨N, 54, none⟩ = some (.map (some pm))) := fun ob => (World.cell?_of_block (w := w1) (w' := w1.alloc ob) (a := ⟨N, 54, none⟩) (Below.heap_alloc w1 ob N lN)).trans d54
    have ta := TA.out (.cells #[.int .i64 (n : Int)] 3)
    have hrN : (Value.slice vo m vc).ownBlock ≠ some N := fun e => by obtain ⟨cc, hc⟩ := row_tag hrow e; rw [H1.out.1] at hc; cases hc
    have hl63 : m + 1 ≤ maxLen := by unfold maxLen; omega
    have HUP : Hid _ := hup
    have HLK : Hid _ := hlk
    clear hup hlk
    go_region_law
      ((refine step_append_lies _ (by rfl) _ _ _ (by rfl) B 3 i0 _ 1 8 Yba.underlying64 hi0 hz0 hz1 hz2 rfl (by omega) (.slice vo m vc) m xs (by rfl) ((hrow.alloc _).drew)
          ⟨w1.heap.size, 0, none⟩ 1 1 [.int .i64 (n : Int)] (by rfl) (by rfl) (World.news_of_block (cs := #[.int .i64 (n : Int)]) (t := 3) (fr := (0, 0)) (heap_alloc_new w1 _)) (by simp [Value.oneCell'])
          (by omega) hl63 (by omega) (by simp; omega) (w1.heap.size + 1) (by simp) ?_; intro gg cap' w3 hown1 hgrow hat hlt;
          have t3 : w3.cell? ⟨N, 54, none⟩ = some (.map (some pm)) := (hgrow.cell_far _ (by simp; omega) (Ne.symm hrN)).trans (TA.out _);
          obtain ⟨ob, hu3, hby3⟩ := HUP.out w3 _ _ (fun b ob hob hne => (hgrow.block b (by simp; have := (Array.getElem?_eq_some_iff.1 hob).1; omega) (Ne.symm hne)).trans ((Below.heap_alloc w1 _ b (Array.getElem?_eq_some_iff.1 hob).1).trans hob)) hown1 (fun g hg => by cases hg; rcases hat with h | h; exact .inl h; exact .inr (Array.getElem?_eq_none (by show w1.heap.size ≤ gg; omega)))))
    all_goals
      have HB3 : Hid _ := And.intro hby3 (And.intro hgrow hat)
      clear hby3 hgrow hat hown1
      go_wp2_with fail
      go_meet
      case rel =>
        obtain ⟨hby3, hgrow, hat⟩ := HB3.out
        exact by_end H1.out.1 H1.out.2.1 hrow hgrow hby3
  case rest =>
    obtain ⟨hN2, hBy2, hfr2⟩ := hcut
    have e54 : wc.cell? ⟨N, 54, none⟩ = some (.map (some pm)) := by simp [World.cell?, hN2, a54]
    have hBc : B ≤ wc.heap.size := Nat.le_trans hB hfr2.size
    have H2 : Hid _ := And.intro hN2 hBy2
    have HF2 : Hid _ := hfr2
    clear hN2 hBy2 hfr2 d50 d54 hq
    go_wp2_with fail
    rw [rounds_succ]
    go_upto_block 1 with fail
    go_cut [] from 37 to 60 (fun wx => wx.heap[N]? = some (.cells ca1 110 (0, 0)) ∧ ByAt B wx pm (L + 1 + 1) ∧ Fr (ByP B wc pm) wc wx)
    case first =>
      go_upto_region 10 with fail
      obtain ⟨v, m, xs, hmL, hrow, hlk, hup⟩ := by_put H2.out.2 (X.extract 0 2)
      obtain ⟨vo, vc, hv⟩ : ∃ vo vc, v = .slice vo m vc := by
        rcases ownsRow_cases hrow with ⟨h1, h2, _⟩ | ⟨g, c, h1, _⟩
        · exact ⟨none, 0, by rw [h1, h2]⟩
        · exact ⟨_, _, h1⟩
      subst hv
      have lN : N < wc.heap.size := (Array.getElem?_eq_some_iff.1 H2.out.1).1
      have hl1 := hlk wc.drew rfl
      have lpm : pm < wc.heap.size := by obtain ⟨es, c, h, _⟩ := H2.out.2; exact (Array.getElem?_eq_some_iff.1 h).1
      have hl2 := hlk (wc.alloc (.cells #[.int .i64 (n : Int)] 3)).drew (Below.heap_alloc wc _ pm lpm)
      have TA : Hid (∀ ob, (wc.alloc ob).drew.cell? ⟨N, 54, none⟩ = some (.map (some pm))) := fun ob => (World.cell?_of_block (w := wc) (w' := wc.alloc ob) (a := ⟨N, 54, none⟩) (Below.heap_alloc wc ob N lN)).trans e54
      have ta := TA.out (.cells #[.int .i64 (n : Int)] 3)
      have hrN : (Value.slice vo m vc).ownBlock ≠ some N := fun e => by obtain ⟨cc, hc⟩ := row_tag hrow e; rw [H2.out.1] at hc; cases hc
      have hl63 : m + 1 ≤ maxLen := by unfold maxLen; omega
      have HUP : Hid _ := hup
      have HLK : Hid _ := hlk
      clear hup hlk
      go_region_law
        ((refine step_append_lies _ (by rfl) _ _ _ (by rfl) B 3 i0 _ 1 8 Yba.underlying64 hi0 hz0 hz1 hz2 rfl (by omega) (.slice vo m vc) m xs (by rfl) ((hrow.alloc _).drew)
            ⟨wc.heap.size, 0, none⟩ 1 1 [.int .i64 (n : Int)] (by rfl) (by rfl) (World.news_of_block (cs := #[.int .i64 (n : Int)]) (t := 3) (fr := (0, 0)) (heap_alloc_new wc _)) (by simp [Value.oneCell'])
            (by omega) hl63 (by omega) (by simp; omega) (wc.heap.size + 1) (by simp) ?_; intro gg cap' w3 hown1 hgrow hat hlt;
            have t3 : w3.cell? ⟨N, 54, none⟩ = some (.map (some pm)) := (hgrow.cell_far _ (by simp; omega) (Ne.symm hrN)).trans (TA.out _);
            obtain ⟨ob, hu3, hby3⟩ := HUP.out w3 _ _ (fun b ob hob hne => (hgrow.block b (by simp; have := (Array.getElem?_eq_some_iff.1 hob).1; omega) (Ne.symm hne)).trans ((Below.heap_alloc wc _ b (Array.getElem?_eq_some_iff.1 hob).1).trans hob)) hown1 (fun g hg => by cases hg; rcases hat with h | h; exact .inl h; exact .inr (Array.getElem?_eq_none (by show wc.heap.size ≤ gg; omega)))))
      all_goals
        have HB3 : Hid _ := And.intro hby3 (And.intro hgrow hat)
        clear hby3 hgrow hat hown1
        go_wp2_with fail
        go_meet
        case rel =>
          obtain ⟨hby3, hgrow, hat⟩ := HB3.out
          exact by_end H2.out.1 H2.out.2 hrow hgrow hby3
    case rest =>
      rename_i w2
      obtain ⟨hN3, hBy3, hfr3⟩ := hcut
      have HR : Hid _ := And.intro hN3 (And.intro hBy3 hfr3)
      clear hN3 hBy3 hfr3 e54
      go_wp2_with fail
      rw [rounds_succ]
      go_wp2_with fail
      go_ret
      obtain ⟨hN3, hBy3, hfr3⟩ := HR.out
      refine ⟨rfl, w1, ca1, H1.out.2.2, hN3, hBy3, ?_⟩
      have hfr2 := HF2.out
      refine ⟨hfr3.os.trans hfr2.os, hfr3.tape.trans hfr2.tape, hfr3.output.trans hfr2.output, Nat.le_trans hfr2.size hfr3.size, fun b hb hp => ?_⟩
      have h2 := hfr2.block b hb hp
      refine (hfr3.block b (Nat.lt_of_lt_of_le hb hfr2.size) (fun e => hp ?_)).trans h2
      rcases e with e | ⟨q, cur, e⟩
      · exact .inl e
      · exact .inr ⟨q, cur, h2.symm.trans e⟩
end Go.Proofs.Ybulkckim
