import Derived.Test.YbulkckoyRows
import Derived.Test.YbulkckoyPicked
import Derived.WalkKit
import Derived.ProofKit
import Derived.OpenShut
import Derived.ShutString
import Derived.SliceStrings
import Derived.ChangeOld
import Derived.Below
namespace Go.Proofs.Ybulkckoy.lawS4327BPicked
open Go.ChangeShapes Go.WideShapes Go.ChangeAt Go.RowKit

theorem own : ownKnob Yba.prog.godebug = none := by kernel_rfl
theorem laidOut : laidOutB Yba.prog = true := by kernel_rfl

/-- A slice of strings that came in: nil, or a row of cells. -/
def IsStrs (w : World) (a : Option Addr) (len cap : Nat) (A : Nat → ByteArray) : Prop :=
  (a = none ∧ len = 0 ∧ cap = 0) ∨ ∃ x, a = some x ∧ len ≤ cap ∧ cap ≤ maxLen ∧ ∀ i, i < len → w.cell? (x.add i) = some (.string (A i))

theorem byte_of {x : Int} (h : (Lit.int .u8 x).wf = true) : ∃ p : Nat, x = (p : Int) ∧ p ≤ 255 := by
  simp [Lit.wf, IntKind.min, IntKind.max, IntKind.signed, IntKind.bits] at h
  exact ⟨x.toNat, by omega, by omega⟩

theorem walk (a0 : Option Addr) (n c : Nat) (A : Nat → ByteArray) (p : Nat) (w : World) (w0 : IsStrs w a0 n c A) (hp : p ≤ 255) :
    Calls Yba.prog 4 #[.slice a0 n c, .int .u8 (p : Int)] w fun e w' => e = .returned (.bool true) ∧ Below w.heap.size w w' := by
  rcases w0 with ⟨rfl, rfl, rfl⟩ | ⟨x, rfl, h1, h2, hc⟩
  · exact picked_zero none 0 p w
  · by_cases hb : 1024 < n
    · exact picked_big (some x) n c p w hb (Nat.le_trans h1 h2)
    · by_cases h0 : 0 < n
      · exact picked_pos x n c p w A (by omega) h0 hp hc
      · obtain rfl : n = 0 := by omega
        exact picked_zero (some x) c p w

set_option maxRecDepth 100000 in
theorem lifted (os : Os) (started : os.Started) (H : Type) (enc : TypeId × Value → H) :
    ReturnsInHanded {} Yba.checked os 4 .any (Rows.lawS4327BPickedSpec.pre6 enc Yba.prog Yba.f4 Rows.lawS4327BPickedRow.domain false) (Rows.lawS4327BPickedSpec.post enc Yba.prog Yba.f4 false true false false) := by
  refine returnsInHanded_of_change (C := Yba.checked) own started (by kernel_rfl) Yba.func4
    (ChangeSpec.witness6 (enc := enc) (C := Yba.checked) false ⟨#[], #[.slice none 0 0, .int .u8 0], []⟩ 8 (by kernel_rfl) (by kernel_rfl) (by kernel_rfl) (by kernel_rfl)) ?_
  intro W base args ds gs before hval0 hW hcnd _
  have hval : ∀ (j : Nat) t v, Yba.f4.params[j]? = some t → args[j]? = some v → Value.okWide Yba.prog W .any base t v := hval0
  have hW' := hW
  obtain ⟨p, q, hA0, hV, rfl, hfz, hnd⟩ := hW
  have hA : DataW.TrodAll enc Yba.prog W 0 (fun _ => true) true Yba.f4.params.toList args.toList ds p := hA0
  rw [Yba.params4] at hA hval
  obtain ⟨v0, v1, d0, d1, p0, p1, rfl, rfl, rfl, h0, h1⟩ := trodAll_two hA
  obtain ⟨rfl, rfl⟩ := trodVars_none hV
  obtain ⟨a0, len0, cap0, rfl⟩ := okWide_slice Yba.underlying22 (hval 0 22 v0 rfl rfl)
  have k0 := h0
  have lt0 : ∀ x ∈ p0, x.block < W.heap.size := by obtain ⟨m, hm⟩ := k0; exact DataW.trod_lt m _ _ _ hm
  obtain ⟨z0, w0⟩ : ∃ A, IsStrs W a0 len0 cap0 A := by
    obtain ⟨fuel, hf⟩ := h0
    rcases open_strings Yba.underlying22 Yba.underlying9 (by kernel_rfl) hf with ⟨hcs, _⟩ | ⟨x, l, c, ss, hcs, _, hl, hm, hz, _, hcell, _⟩
    · simp [Value.cells] at hcs
      obtain ⟨rfl, rfl, rfl⟩ := hcs
      exact ⟨fun _ => ByteArray.empty, .inl ⟨rfl, rfl, rfl⟩⟩
    · simp [Value.cells] at hcs
      obtain ⟨rfl, rfl, rfl⟩ := hcs
      simp at hz
      exact ⟨fun i => ss.getD i ByteArray.empty, .inr ⟨_, rfl, hl, hm, fun i hi => hcell i (by omega)⟩⟩
  obtain ⟨pk, rfl, rfl, rfl, w2⟩ := open_int Yba.underlying5 (hval 1 5 v1 rfl rfl) h1
  obtain ⟨pn, rfl, hpn⟩ := byte_of w2
  clear hA0 hval0
  refine (walk a0 len0 cap0 z0 pn W w0 hpn).mono fun e W' ⟨he, bel⟩ => ?_
  subst he
  exact ⟨_, rfl, _, _, _, [], _, [], hW', trodAll_mk1 (shut_bool Yba.underlying4 _), trodAll_mk2 (Below.trod laidOut (by kernel_rfl) (of_decide_eq_true (by kernel_rfl)) k0 bel lt0) (shut_int Yba.underlying5 w2), rfl, bel.frame _, fun h => by cases h⟩

theorem over : Rows.lawS4327BPickedRow.holds Yba.pinned (OpenSpec.ofChange Rows.lawS4327BPickedSpec) :=
  OpenClaim.holds_of_wide 4 Yba.f4 rfl rfl rfl rfl rfl rfl rfl ⟨rfl, rfl, rfl, rfl, rfl⟩ rfl rfl rfl rfl rfl (by kernel_rfl) Yba.func4 (by kernel_rfl)
    (of_decide_eq_true (by kernel_rfl)) (by unfold Func.isWrapper; first | (rw [if_pos (by decide +kernel)]; kernel_rfl) | (rw [if_neg (by decide +kernel)]; exact ⟨rfl, rfl⟩))
    (fun os started H enc _ => lifted os started H enc)
end Go.Proofs.Ybulkckoy.lawS4327BPicked

namespace Go.Proofs.Ybulkckoy
theorem lawS4327BPicked_holds : Rows.LawS4327BPickedSaid := lawS4327BPicked.over
#print axioms lawS4327BPicked_holds
end Go.Proofs.Ybulkckoy
