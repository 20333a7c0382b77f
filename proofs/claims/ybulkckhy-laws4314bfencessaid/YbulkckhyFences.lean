/-
  THE ROW OF LawS4314BFences, PROVED. The frame is the kit's own (proof-skeleton), turned to a slice of strings and a slice of integers; the walks: YbulkckhyReg (newRegister), YbulkckhyLaw (the law at one account or more), YbulkckhyEdge (none).
-/
import Derived.Test.YbulkckhyRows
import Derived.Test.YbulkckhyEdge
import Derived.WalkKit
import Derived.ProofKit
import Derived.OpenShut
import Derived.ShutString
import Derived.SliceStrings
import Derived.ChangeOld
import Derived.Below
namespace Go.Proofs.Ybulkckhy.lawS4314BFences
open Go.ChangeShapes Go.WideShapes Go.ChangeAt Go.RowKit
open Go.ChangeMaps (open_string shut_string)

theorem own : ownKnob Yba.prog.godebug = none := by kernel_rfl
theorem laidOut : laidOutB Yba.prog = true := by kernel_rfl

/-- A slice of integers that came in: nil, or a row of cells. -/
def IsInts (w : World) (a : Option Addr) (len cap : Nat) (Z : Nat → Int) : Prop :=
  (a = none ∧ len = 0 ∧ cap = 0) ∨ ∃ x, a = some x ∧ len ≤ cap ∧ cap ≤ maxLen ∧ ∀ i, i < len → w.cell? (x.add i) = some (.int .i64 (Z i))
/-- A slice of strings that came in: nil, or a row of cells. -/
def IsStrs (w : World) (a : Option Addr) (len cap : Nat) (A : Nat → ByteArray) : Prop :=
  (a = none ∧ len = 0 ∧ cap = 0) ∨ ∃ x, a = some x ∧ len ≤ cap ∧ cap ≤ maxLen ∧ ∀ i, i < len → w.cell? (x.add i) = some (.string (A i))

theorem lt_of_cell {w : World} {x : Addr} {v : Value} (h : w.cell? x = some v) : x.block < w.heap.size := World.block_lt_of_cell? w x h

theorem walk (a0 : Option Addr) (n c : Nat) (A : Nat → ByteArray) (a1 : Option Addr) (l cc : Nat) (Z : Nat → Int) (w : World) (w0 : IsStrs w a0 n c A) (w1 : IsInts w a1 l cc Z) :
    Calls Yba.prog 3 #[.slice a0 n c, .slice a1 l cc] w fun e w' => e = .returned (.bool true) ∧ Below w.heap.size w w' := by
  have hlm : l ≤ maxLen := by
    rcases w1 with ⟨_, rfl, _⟩ | ⟨x, _, h1, h2, _⟩
    · exact Nat.zero_le _
    · exact Nat.le_trans h1 h2
  have hZ : 0 < l → ∃ a', a1 = some a' ∧ a'.block < w.heap.size ∧ ∀ i, i < l → w.cell? (a'.add i) = some (.int .i64 (Z i)) := by
    intro hl
    rcases w1 with ⟨_, rfl, _⟩ | ⟨x, rfl, _, _, hc⟩
    · omega
    · exact ⟨x, rfl, by have := lt_of_cell (hc 0 hl); rwa [blockAdd] at this, hc⟩
  rcases w0 with ⟨rfl, rfl, rfl⟩ | ⟨x, rfl, h1, h2, hc⟩
  · exact law_nil a1 l cc w
  · by_cases hb : 4096 < n
    · exact law_big (some x) n c a1 l cc w hb (Nat.le_trans h1 h2)
    · by_cases h0 : 0 < n
      · exact law_pos x n c a1 l cc w A Z (by omega) h0 hlm (by have := lt_of_cell (hc 0 h0); rwa [blockAdd] at this) hc hZ
      · obtain rfl : n = 0 := by omega
        exact law_zero x c a1 l cc w

set_option maxRecDepth 100000 in
theorem lifted (os : Os) (started : os.Started) (H : Type) (enc : TypeId × Value → H) :
    ReturnsInHanded {} Yba.checked os 3 .any (Rows.lawS4314BFencesSpec.pre6 enc Yba.prog Yba.f3 Rows.lawS4314BFencesRow.domain false) (Rows.lawS4314BFencesSpec.post enc Yba.prog Yba.f3 false true false false) := by
  refine returnsInHanded_of_change (C := Yba.checked) own started (by kernel_rfl) Yba.func3
    (ChangeSpec.witness6 (enc := enc) (C := Yba.checked) false ⟨#[], #[.slice none 0 0, .slice none 0 0], []⟩ 8 (by kernel_rfl) (by kernel_rfl) (by kernel_rfl) (by kernel_rfl)) ?_
  intro W base args ds gs before hval0 hW hcnd _
  have hval : ∀ (j : Nat) t v, Yba.f3.params[j]? = some t → args[j]? = some v → Value.okWide Yba.prog W .any base t v := hval0
  have hW' := hW
  obtain ⟨p, q, hA0, hV, rfl, hfz, hnd⟩ := hW
  have hA : DataW.TrodAll enc Yba.prog W 0 (fun _ => true) true Yba.f3.params.toList args.toList ds p := hA0
  rw [Yba.params3] at hA hval
  obtain ⟨v0, vs0, d0, ds0, p0, q0, hargs, rfl, rfl, h0, r0⟩ := trodAll_cons hA
  obtain ⟨v1, vs1, d1, ds1, p1, q1, rfl, rfl, rfl, h1, r1⟩ := trodAll_cons r0
  obtain ⟨rfl, rfl, rfl⟩ := trodAll_nil r1
  obtain rfl : args = #[v0, v1] := by cases args; simp_all
  obtain ⟨rfl, rfl⟩ := trodVars_none hV
  obtain ⟨a0, len0, cap0, rfl⟩ := okWide_slice Yba.underlying22 (hval 0 22 v0 rfl rfl)
  have k0 := h0
  have lt0 : ∀ x ∈ p0, x.block < W.heap.size := by obtain ⟨m, hm⟩ := k0; exact DataW.trod_lt m _ _ _ hm
  obtain ⟨z0, w0⟩ : ∃ A, IsStrs W a0 len0 cap0 A := by
    obtain ⟨fuel, hf⟩ := h0
    rcases open_strings Yba.underlying22 Yba.underlying9 (by kernel_rfl) hf with ⟨hcs, _⟩ | ⟨x, l, c, ss, hcs, _, hl, hm, hz, _, hcell, _⟩
    · simp [Value.cells] at hcs
      obtain ⟨rfl, rfl, rfl⟩ := hcs
      exact ⟨fun _ => ByteArray.empty, .inl ⟨rfl, rfl, rfl⟩⟩
    · simp [Value.cells] at hcs
      obtain ⟨rfl, rfl, rfl⟩ := hcs
      simp at hz
      exact ⟨fun i => ss.getD i ByteArray.empty, .inr ⟨_, rfl, hl, hm, fun i hi => hcell i (by omega)⟩⟩
  obtain ⟨a1, len1, cap1, rfl⟩ := okWide_slice Yba.underlying23 (hval 1 23 v1 rfl rfl)
  have k1 := h1
  have lt1 : ∀ x ∈ p1, x.block < W.heap.size := by obtain ⟨m, hm⟩ := k1; exact DataW.trod_lt m _ _ _ hm
  obtain ⟨z1, w1⟩ : ∃ Z, IsInts W a1 len1 cap1 Z := by
    obtain ⟨fuel, hf⟩ := h1
    rcases open_ints Yba.underlying23 Yba.underlying3 (by kernel_rfl) hf with ⟨hcs, _⟩ | ⟨x, l, c, zs, hcs, _, hl, hm, hz, _, hcell, hwz⟩
    · simp [Value.cells] at hcs
      obtain ⟨rfl, rfl, rfl⟩ := hcs
      exact ⟨fun _ => 0, .inl ⟨rfl, rfl, rfl⟩⟩
    · simp [Value.cells] at hcs
      obtain ⟨rfl, rfl, rfl⟩ := hcs
      simp at hz
      exact ⟨fun i => zs.getD i 0, .inr ⟨_, rfl, hl, hm, fun i hi => hcell i (by omega)⟩⟩
  clear hA0 hval0
  refine (walk a0 len0 cap0 z0 a1 len1 cap1 z1 W w0 w1).mono fun e W' ⟨he, bel⟩ => ?_
  subst he
  exact ⟨_, rfl, _, _, _, [], _, [], hW', trodAll_mk1 (shut_bool Yba.underlying4 _), (trodAll_cons_mk (Below.trod laidOut (by kernel_rfl) (of_decide_eq_true (by kernel_rfl)) k0 bel lt0) (trodAll_cons_mk (Below.trod laidOut (by kernel_rfl) (of_decide_eq_true (by kernel_rfl)) k1 bel lt1) trodAll_mk0)), rfl, bel.frame _, fun h => by cases h⟩

theorem over : Rows.lawS4314BFencesRow.holds Yba.pinned (OpenSpec.ofChange Rows.lawS4314BFencesSpec) :=
  OpenClaim.holds_of_wide 3 Yba.f3 rfl rfl rfl rfl rfl rfl rfl ⟨rfl, rfl, rfl, rfl, rfl⟩ rfl rfl rfl rfl rfl (by kernel_rfl) Yba.func3 (by kernel_rfl)
    (of_decide_eq_true (by kernel_rfl)) (by unfold Func.isWrapper; first | (rw [if_pos (by decide +kernel)]; kernel_rfl) | (rw [if_neg (by decide +kernel)]; exact ⟨rfl, rfl⟩))
    (fun os started H enc _ => lifted os started H enc)
end Go.Proofs.Ybulkckhy.lawS4314BFences

namespace Go.Proofs.Ybulkckhy
/-- THE STATEMENT. -/
theorem lawS4314BFences_holds : Rows.LawS4314BFencesSaid := lawS4314BFences.over
#print axioms lawS4314BFences_holds
end Go.Proofs.Ybulkckhy
