/-
  THE ROW OF LawS4330AText, PROVED, AND ITS TIED CARD. The walks: YbulkckqoDoorItoa (zzs4330aitoa), Shelf (strings.Join, strconv.Itoa by the kit's contracts), Format, Want, Law, Edge. Of the three listed tables the proof reads one alone, the powers of ten.
-/
import Derived.Test.YbulkckqoDoorRows
import Derived.Test.YbulkckqoDoorTie
import Derived.Test.YbulkckqoDoorCards
import Derived.Test.YbulkckqoDoorEdge
import Derived.ProofKit
import Derived.LaidMore
import Derived.OpenShut
import Derived.ShutString
import Derived.Stop.Joined
import Derived.Deep.SlicePairs
import Derived.SevenTiedAt
import Derived.ChangeOld
namespace Go.Proofs.YbulkckqoDoor
open Go.ChangeShapes Go.WideShapes Go.ChangeAt Go.WideMaps Go.WideElems Go.RowKit Go.Lib

theorem own : ownKnob Ybad.prog.godebug = none := by kernel_rfl
theorem laidOut : laidOutB Ybad.prog = true := by kernel_rfl
theorem tPow : (Ybad.prog.globals[0]?).map (·.type) = some 54 := by kernel_rfl

theorem door_met (os : Os) (args : Array Value) : laidMetH Ybad.prog Rows.lawS4330ATextRow.laid ((World.doorLaid Ybad.prog 400 os).forCall (fun _ _ => 0) ⟨#[], args, []⟩).memory :=
  laidMetH_of_parts3 (fuel := 65) (laidMet_of_run' 65 (by kernel_rfl) (by kernel_rfl)) (by kernel_rfl) (by kernel_rfl)

theorem of_laid {W : World} (h : laidMetH Ybad.prog Rows.lawS4330ATextRow.laid W) : Tab W := by
  rw [MakeChecks.laidMetH_plain _ _ _ (by kernel_rfl)] at h
  obtain ⟨ps, ⟨g0, t0, cs0, f0, p0, q0, hg0, ht0, hv0, hd0, ⟨g1, t1, cs1, f1, p1, q1, hg1, ht1, hv1, hd1, ⟨g2, t2, cs2, f2, p2, q2, hg2, ht2, hv2, hd2, _, _⟩, _⟩, _⟩, _, _⟩ := h
  obtain rfl := Option.some.inj (gPow.symm.trans hg2)
  obtain rfl := Option.some.inj (tPow.symm.trans ht2)
  unfold Tab TabIs
  have e : Rows.laid_internal_strconv_uint64pow10 (H := Unit) = tabData .u64 pow10Tab := rfl
  rw [e] at hd2
  have := cells_of_tab Ybad.underlying54 Ybad.underlying33 (by kernel_rfl) (by kernel_rfl) hd2
  rw [← this]
  exact hv2

/-- A slice of pairs that came in: nil, or a row of cells. -/
def IsPairs (w : World) (a : Option Addr) (len cap : Nat) (S Q : Nat → Int) : Prop :=
  (a = none ∧ len = 0 ∧ cap = 0) ∨ ∃ x, a = some x ∧ len ≤ cap ∧ cap ≤ maxLen ∧ ∀ i, i < len → w.cell? (x.add (i * 2)) = some (.int .i64 (S i)) ∧ w.cell? (x.add (i * 2 + 1)) = some (.int .i64 (Q i))

theorem walk (a0 : Option Addr) (n c : Nat) (S Q : Nat → Int) (w : World) (w0 : IsPairs w a0 n c S Q) (ht : Tab w)
    (hS : ∀ i, -9223372036854775808 ≤ S i ∧ S i ≤ 9223372036854775807) (hQ : ∀ i, -9223372036854775808 ≤ Q i ∧ Q i ≤ 9223372036854775807) :
    Calls Ybad.prog 3 #[.slice a0 n c] w fun e w' => e = .returned (.bool true) ∧ Below w.heap.size w w' := by
  have h0 : 0 < w.heap.size := by
    have := TabIs.cell ht gPow 0 (by decide)
    exact World.block_lt_of_cell? w _ this
  rcases w0 with ⟨rfl, rfl, rfl⟩ | ⟨x, rfl, h1, h2, hc⟩
  · exact law_nil w
  · by_cases hb : 1024 < n
    · exact law_big (some x) n c w hb (Nat.le_trans h1 h2)
    · by_cases hn : 0 < n
      · obtain ⟨b, off, spot⟩ := x
        have hspot : spot = none := by simpa [Addr.add] using World.cell?_spot (hc 0 hn).1
        subst hspot
        refine law_pos b off n c w S Q (by omega) hn hS hQ ht (by have := World.block_lt_of_cell? w _ (hc 0 hn).1; simpa [Addr.add] using this) (fun i hi => ?_) (fun i hi => ?_)
        · have := (hc i hi).1; rwa [Addr.add_lit] at this
        · have := (hc i hi).2; rwa [Addr.add_lit, ← Nat.add_assoc] at this
      · obtain rfl : n = 0 := by omega
        exact law_zero x c w ht h0

theorem int_bounds {x : Int} (h : (Lit.int .i64 x).wf = true) : -9223372036854775808 ≤ x ∧ x ≤ 9223372036854775807 := by
  simp [Lit.wf, IntKind.min, IntKind.max, IntKind.signed, IntKind.bits] at h
  omega

/-- Two families of numbers, chosen. -/
theorem pick_ints {m : Nat} {A B : Nat → Int → Prop} (h : ∀ i, i < m → ∃ x y, A i x ∧ B i y ∧ (Lit.int .i64 x).wf = true ∧ (Lit.int .i64 y).wf = true) :
    ∃ S Q : Nat → Int, (∀ i, i < m → A i (S i) ∧ B i (Q i)) ∧ (∀ i, -9223372036854775808 ≤ S i ∧ S i ≤ 9223372036854775807) ∧ (∀ i, -9223372036854775808 ≤ Q i ∧ Q i ≤ 9223372036854775807) := by
  have h' : ∀ i, ∃ p : Int × Int, (i < m → A i p.1 ∧ B i p.2) ∧ (-9223372036854775808 ≤ p.1 ∧ p.1 ≤ 9223372036854775807) ∧ (-9223372036854775808 ≤ p.2 ∧ p.2 ≤ 9223372036854775807) := fun i => by
    by_cases hi : i < m
    · obtain ⟨x, y, a, b, wx, wy⟩ := h i hi
      exact ⟨(x, y), fun _ => ⟨a, b⟩, int_bounds wx, int_bounds wy⟩
    · exact ⟨(0, 0), fun hh => absurd hh hi, by decide, by decide⟩
  exact ⟨fun i => (Classical.choose (h' i)).1, fun i => (Classical.choose (h' i)).2, fun i hi => (Classical.choose_spec (h' i)).1 hi, fun i => (Classical.choose_spec (h' i)).2.1, fun i => (Classical.choose_spec (h' i)).2.2⟩

set_option maxRecDepth 100000 in
theorem lifted (os : Os) (started : os.Started) (H : Type) (enc : TypeId × Value → H) :
    ReturnsInHanded {} Ybad.checked os 3 .any (fun w args => (Rows.lawS4330ATextSpec.pre enc Ybad.prog Ybad.f3 [] false w args ∧ laidMetH Ybad.prog Rows.lawS4330ATextRow.laid w) ∧ sizedMet enc Ybad.prog Ybad.f3 (OpenSpec.ofChange Rows.lawS4330ATextSpec) false w args)
      (Rows.lawS4330ATextSpec.post enc Ybad.prog Ybad.f3 false true false false) := by
  refine returnsInHanded_of_change_and (C := Ybad.checked) (X := fun w _ => laidMetH Ybad.prog Rows.lawS4330ATextRow.laid w) (fun _ _ _ hh h => h.of_heap hh) own started (by kernel_rfl) Ybad.func3
    (ChangeSpec.witness_shaped (enc := enc) (C := Ybad.checked) (os := os) (X := fun w _ => laidMetH Ybad.prog Rows.lawS4330ATextRow.laid w) false (World.doorLaid Ybad.prog 400 os) #[.slice none 0 0] 8 rfl (World.shaped_of_RefB (by kernel_rfl) (by kernel_rfl)) (by kernel_rfl) (by kernel_rfl) (by kernel_rfl) (door_met os _)) ?_
  intro W base args ds gs before hval0 hW _ _ hL _
  have hval : ∀ (j : Nat) t v, Ybad.f3.params[j]? = some t → args[j]? = some v → Value.okWide Ybad.prog W .any base t v := hval0
  have hW' := hW
  obtain ⟨p, q, hA0, hV, rfl, hfz, hnd⟩ := hW
  have hA : DataW.TrodAll enc Ybad.prog W 0 (fun _ => true) true Ybad.f3.params.toList args.toList ds p := hA0
  rw [Ybad.params3] at hA hval
  obtain ⟨v0, d0, rfl, rfl, h0⟩ := trodAll_one hA
  obtain ⟨rfl, rfl⟩ := trodVars_none hV
  obtain ⟨a0, len0, cap0, rfl⟩ := okWide_slice Ybad.underlying22 (hval 0 22 v0 rfl rfl)
  have k0 := h0
  have lt0 : ∀ x ∈ p, x.block < W.heap.size := by obtain ⟨m, hm⟩ := k0; exact DataW.trod_lt m _ _ _ hm
  obtain ⟨S, Q, w0, hS, hQ⟩ : ∃ S Q, IsPairs W a0 len0 cap0 S Q ∧ (∀ i, -9223372036854775808 ≤ S i ∧ S i ≤ 9223372036854775807) ∧ (∀ i, -9223372036854775808 ≤ Q i ∧ Q i ≤ 9223372036854775807) := by
    obtain ⟨fuel, hf⟩ := h0
    rcases Deep.open_slice_pairs Ybad.underlying22 Ybad.underlying25 (by kernel_rfl) rfl rfl (by kernel_rfl) (by kernel_rfl) hf with ⟨hcs, _⟩ | ⟨a, len, cap, m, n, V0, V1, D0, D1, P0, P1, hcs, _, hl, hm, hmm, _, hcell⟩
    · simp [Value.cells] at hcs
      obtain ⟨rfl, rfl, rfl⟩ := hcs
      exact ⟨fun _ => 0, fun _ => 0, .inl ⟨rfl, rfl, rfl⟩, fun _ => by constructor <;> simp, fun _ => by constructor <;> simp⟩
    · simp [Value.cells] at hcs
      obtain ⟨rfl, rfl, rfl⟩ := hcs
      simp at hmm
      obtain ⟨S, Q, h1, h2, h3⟩ := pick_ints (m := m) (A := fun i x => W.cell? (a.add (i * 2)) = some (.int .i64 x)) (B := fun i x => W.cell? (a.add (i * 2 + 1)) = some (.int .i64 x)) (fun i hi => by
        obtain ⟨c0, c1, t0, t1⟩ := hcell i hi
        obtain ⟨x, e0, _, wx⟩ := DataW.trod_int Ybad.underlying3 t0
        obtain ⟨y, e1, _, wy⟩ := DataW.trod_int Ybad.underlying3 t1
        simp at e0 e1
        rw [e0] at c0
        rw [e1] at c1
        exact ⟨x, y, c0, c1, wx, wy⟩)
      exact ⟨S, Q, .inr ⟨_, rfl, hl, hm, fun i hi => h1 i (by omega)⟩, h2, h3⟩
  have hT := of_laid hL
  clear hA0 hval0
  refine (walk a0 len0 cap0 S Q W w0 hT hS hQ).mono fun e W' ⟨he, bel⟩ => ?_
  subst he
  exact ⟨_, rfl, _, _, _, [], _, [], hW', trodAll_mk1 (shut_bool Ybad.underlying4 _), trodAll_mk1 (Below.trod laidOut (by kernel_rfl) (of_decide_eq_true (by kernel_rfl)) k0 bel lt0), rfl, bel.frame _, fun h => by cases h⟩

theorem lawS4330AText_holds : Rows.LawS4330ATextSaid :=
  OpenClaim.holds_of_wide 3 Ybad.f3 rfl rfl rfl rfl rfl rfl rfl ⟨rfl, rfl, rfl, rfl, rfl⟩ rfl rfl rfl rfl rfl (by kernel_rfl) Ybad.func3 (by kernel_rfl)
    (of_decide_eq_true (by kernel_rfl)) (by unfold Func.isWrapper; first | (rw [if_pos (by decide +kernel)]; kernel_rfl) | (rw [if_neg (by decide +kernel)]; exact ⟨rfl, rfl⟩))
    (fun os started H enc _ => lifted os started H enc)
#print axioms lawS4330AText_holds

/-- THE TIED CARD. -/
theorem lawS4330AText_card : Rows.LawS4330ATextCardSaid :=
  Claim7.holds_tied_plain_at .later [] [.data, .data, .data] true Rows.lawS4330ATextCard.stood.harness false
    lawS4330AText_holds (fun _ h => by cases h) (by kernel_rfl) (fun _ h => by cases h) lawS4330AText_row_tie rfl ⟨rfl, rfl⟩ (by kernel_rfl) rfl
    (fun f fn hf hfn => by
      obtain rfl : f = 3 := Option.some.inj ((show Ybad.prog.funcNamed Rows.lawS4330ATextRow.func = some 3 by kernel_rfl).symm.trans hf) |>.symm
      obtain rfl : fn = Ybad.f3 := (Option.some.inj (Ybad.func3.symm.trans hfn)).symm
      exact ⟨by kernel_rfl, fun j t ht => by
        rw [Ybad.params3] at ht
        have hm : t ∈ [22] := by simpa using Array.mem_of_getElem? ht
        have hall : ([22].all fun u => !Ybad.prog.wantsStandIn u) = true := by kernel_rfl
        exact (show Ybad.prog.wantsStandIn t = false by simpa using List.all_eq_true.1 hall t hm)⟩)
    (by kernel_rfl)
#print axioms lawS4330AText_card
end Go.Proofs.YbulkckqoDoor
