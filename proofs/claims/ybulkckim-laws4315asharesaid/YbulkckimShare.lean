/-
  THE ROW OF LawS4315AShare, PROVED. The plain law on floats: YbulkckimFloat; the walks: YbulkckimShareW (RepairedBy, Recoverable), YbulkckimArr (two equal arrays), YbulkckimShareL (the law, case by case).
-/
import Derived.Test.YbulkckimRows
import Derived.Test.YbulkckimShareL
import Derived.ProofKit
import Derived.OpenShut
import Derived.ShutString
import Derived.Lib.SmallJoins
import Derived.Laws.IdiomArrays
namespace Go.Proofs.Ybulkckim
open Go.ChangeShapes Go.WideShapes Go.ChangeAt Go.RowKit

theorem own : ownKnob Yba.prog.godebug = none := by kernel_rfl
theorem cells22 : Yba.prog.cellsOf 22 = 4 := by kernel_rfl
theorem cells3 : Yba.prog.cellsOf 3 = 1 := by kernel_rfl

theorem wrap_abs (x : Int) : (wrap64 x).natAbs ≤ 2 ^ 63 := by
  have h63 : (2 : Nat) ^ 63 = 9223372036854775808 := by decide
  rw [h63]
  unfold wrap64
  omega

theorem quo_any (a x : Int) (ha : a.natAbs ≤ 2 ^ 63) (h0 : (wrap64 x == 0) = false) :
    ∃ q, Ieee.double.div (floatOfInt .f64 a) (floatOfInt .f64 (wrap64 x)) = some q ∧ Hid ((FloatKind.f64.format.order q q == some .eq) = true) := by
  obtain ⟨q, h1, h2⟩ := quo_self a (wrap64 x) ha (wrap_abs x) (by simpa using h0)
  refine ⟨q, h1, ?_⟩
  have h3 : FloatKind.f64.format.order q q = some .eq := h2
  unfold Hid
  rw [h3]
  rfl

theorem share_all (ho ir r0 r1 r2 r3 s : Int) (w : World) (h0 : 0 ≤ s) (h1 : s ≤ 255) :
    Calls Yba.prog 3 #[.int .i64 ho, .int .i64 ir, .agg #[.int .i64 r0, .int .i64 r1, .int .i64 r2, .int .i64 r3], .int .u8 s] w fun e w' => e = .returned (.bool true) ∧ Below w.heap.size w w' := by
  have hs : s = 255 ∨ s = 0 ∨ s = 1 ∨ s = 2 ∨ s = 3 ∨ (4 ≤ s ∧ s ≤ 254) := by omega
  rcases Bool.eq_false_or_eq_true (wrap64 (ho - ir) == 0) with hz | hz
  · rcases hs with rfl | rfl | rfl | rfl | rfl | ⟨h4, h5⟩
    · exact shareZ255 ho ir r0 r1 r2 r3 w hz
    · exact shareZ0 ho ir r0 r1 r2 r3 w hz
    · exact shareZ1 ho ir r0 r1 r2 r3 w hz
    · exact shareZ2 ho ir r0 r1 r2 r3 w hz
    · exact shareZ3 ho ir r0 r1 r2 r3 w hz
    · exact shareZm ho ir r0 r1 r2 r3 s w h4 h5 hz
  · obtain ⟨q0, d0, o0⟩ := quo_any 0 (ho - ir) (by decide) hz
    obtain ⟨q1, d1, o1⟩ := quo_any (wrap64 r0) (ho - ir) (wrap_abs _) hz
    obtain ⟨q2, d2, o2⟩ := quo_any (wrap64 (wrap64 r0 + r1)) (ho - ir) (wrap_abs _) hz
    obtain ⟨q3, d3, o3⟩ := quo_any (wrap64 (wrap64 (wrap64 r0 + r1) + r2)) (ho - ir) (wrap_abs _) hz
    obtain ⟨q4, d4, o4⟩ := quo_any (wrap64 (wrap64 (wrap64 (wrap64 r0 + r1) + r2) + r3)) (ho - ir) (wrap_abs _) hz
    rcases hs with rfl | rfl | rfl | rfl | rfl | ⟨h4, h5⟩
    · exact share0 ho ir r0 r1 r2 r3 w hz q0 d0 o0
    · exact share1 ho ir r0 r1 r2 r3 w hz q1 d1 o1
    · exact share2 ho ir r0 r1 r2 r3 w hz q2 d2 o2
    · exact share3 ho ir r0 r1 r2 r3 w hz q3 d3 o3
    · exact share4 ho ir r0 r1 r2 r3 w hz q4 d4 o4
    · have hm : s % 4 = 0 ∨ s % 4 = 1 ∨ s % 4 = 2 ∨ s % 4 = 3 := by omega
      rcases hm with h | h | h | h
      · exact shareMod1 ho ir r0 r1 r2 r3 s w h4 h5 h hz q1 d1 o1
      · exact shareMod2 ho ir r0 r1 r2 r3 s w h4 h5 h hz q2 d2 o2
      · exact shareMod3 ho ir r0 r1 r2 r3 s w h4 h5 h hz q3 d3 o3
      · exact shareMod4 ho ir r0 r1 r2 r3 s w h4 h5 h hz q4 d4 o4

set_option maxRecDepth 100000 in
theorem lifted (os : Os) (started : os.Started) (H : Type) (enc : TypeId × Value → H) :
    ReturnsInHanded {} Yba.checked os 3 .any (Rows.lawS4315AShareSpec.pre6 enc Yba.prog Yba.f3 Rows.lawS4315AShareRow.domain false) (Rows.lawS4315AShareSpec.post enc Yba.prog Yba.f3 false true false false) := by
  refine returnsInHanded_of_change (C := Yba.checked) own started (by kernel_rfl) Yba.func3
    (ChangeSpec.witness6 (enc := enc) (C := Yba.checked) false ⟨#[], #[.int .i64 0, .int .i64 0, .agg #[.int .i64 0, .int .i64 0, .int .i64 0, .int .i64 0], .int .u8 0], []⟩ 8 (by kernel_rfl) (by kernel_rfl) (by kernel_rfl) (by kernel_rfl)) ?_
  intro W base args ds gs before hval0 hW hcnd _
  have hval : ∀ (j : Nat) t v, Yba.f3.params[j]? = some t → args[j]? = some v → Value.okWide Yba.prog W .any base t v := hval0
  have hW' := hW
  obtain ⟨p, q, hA0, hV, rfl, hfz, hnd⟩ := hW
  have hA : DataW.TrodAll enc Yba.prog W 0 (fun _ => true) true Yba.f3.params.toList args.toList ds p := hA0
  rw [Yba.params3] at hA hval
  obtain ⟨v0, v1, v2, v3, d0, d1, d2, d3, p0, p1, p2, p3, rfl, rfl, rfl, h0, h1, h2, h3⟩ := trodAll_four hA
  obtain ⟨rfl, rfl⟩ := trodVars_none hV
  obtain ⟨ho, rfl, rfl, rfl, w0⟩ := open_int Yba.underlying3 (hval 0 3 v0 rfl rfl) h0
  obtain ⟨ir, rfl, rfl, rfl, w1⟩ := open_int Yba.underlying3 (hval 1 3 v1 rfl rfl) h1
  obtain ⟨s, rfl, rfl, rfl, w3⟩ := open_int Yba.underlying5 (hval 3 5 v3 rfl rfl) h3
  obtain ⟨cs, rfl, hsz, _⟩ : ∃ cs, v2 = .agg cs ∧ cs.size = Yba.prog.cellsOf 22 ∧ Row.okWide Yba.prog W .any base 22 cs := by
    have := hval 2 22 v2 rfl rfl
    simpa [Value.okWide, Yba.underlying22] using this
  rw [cells22] at hsz
  obtain ⟨c0, c1, c2, c3, rfl⟩ := Joins.array4 hsz
  obtain ⟨fuel, hf⟩ := h2
  obtain ⟨y0, y1, y2, y3, m, hx, hy0, hy1, hy2, hy3⟩ := trod_array4 Yba.underlying22 cells3 hf
  obtain ⟨r0, e0, rfl, x0⟩ := DataW.trod_int Yba.underlying3 hy0
  obtain ⟨r1, e1, rfl, x1⟩ := DataW.trod_int Yba.underlying3 hy1
  obtain ⟨r2, e2, rfl, x2⟩ := DataW.trod_int Yba.underlying3 hy2
  obtain ⟨r3, e3, rfl, x3⟩ := DataW.trod_int Yba.underlying3 hy3
  simp at e0 e1 e2 e3
  subst e0 e1 e2 e3
  simp only [Prod.mk.injEq] at hx
  obtain ⟨rfl, rfl⟩ := hx
  clear hA0 hval0
  simp only [List.append_nil] at hW'
  have arr : ∀ (W' : World) (sp : Nat → Bool), DataW.Trod enc Yba.prog W' 0 sp true 22 (.agg #[.int .i64 r0, .int .i64 r1, .int .i64 r2, .int .i64 r3]) (.agg [.lit (.int .i64 r0), .lit (.int .i64 r1), .lit (.int .i64 r2), .lit (.int .i64 r3)]) [] := fun W' sp =>
    ⟨2, by simp [DataW.trod, Value.cells, Yba.underlying22, Yba.underlying3, cells22, cells3, x0, x1, x2, x3, show List.range 4 = [0, 1, 2, 3] from rfl]⟩
  have hk : 0 ≤ s ∧ s ≤ 255 := by
    have := w3
    simp [Lit.wf, IntKind.min, IntKind.max, IntKind.signed, IntKind.bits] at this
    omega
  refine (share_all ho ir r0 r1 r2 r3 s W hk.1 hk.2).mono fun e W' ⟨he, bel⟩ => ?_
  subst he
  exact ⟨_, rfl, _, _, _, [], [], [], hW', trodAll_mk1 (shut_bool Yba.underlying4 _), trodAll_mk4 (shut_int Yba.underlying3 w0) (shut_int Yba.underlying3 w1) (arr _ _) (shut_int Yba.underlying5 w3), rfl, bel.frame _, fun h => by cases h⟩

theorem lawS4315AShare_holds : Rows.LawS4315AShareSaid :=
  OpenClaim.holds_of_wide 3 Yba.f3 rfl rfl rfl rfl rfl rfl rfl ⟨rfl, rfl, rfl, rfl, rfl⟩ rfl rfl rfl rfl rfl (by kernel_rfl) Yba.func3 (by kernel_rfl)
    (of_decide_eq_true (by kernel_rfl)) (by unfold Func.isWrapper; first | (rw [if_pos (by decide +kernel)]; kernel_rfl) | (rw [if_neg (by decide +kernel)]; exact ⟨rfl, rfl⟩))
    (fun os started H enc _ => lifted os started H enc)
#print axioms lawS4315AShare_holds
end Go.Proofs.Ybulkckim
