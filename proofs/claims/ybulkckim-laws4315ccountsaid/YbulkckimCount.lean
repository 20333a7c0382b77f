/-
  THE ROW OF LawS4315CCount, PROVED. The walk: YbulkckimLaw (loops 1 to 6, makeUp), YbulkckimTail (loops 7 to 10); the plain law: YbulkckimPlainL.
-/
import Derived.Test.YbulkckimRows
import Derived.Test.YbulkckimLaw
import Derived.ProofKit
import Derived.OpenShut
import Derived.ShutString
import Derived.Lib.SmallJoins
import Derived.Laws.IdiomArrays
namespace Go.Proofs.Ybulkckim
open Go.ChangeShapes Go.WideShapes Go.ChangeAt Go.RowKit

theorem ownC : ownKnob Yba.prog.godebug = none := by kernel_rfl
theorem cells35 : Yba.prog.cellsOf 35 = 17 := by kernel_rfl
theorem cells33 : Yba.prog.cellsOf 33 = 6 := by kernel_rfl
theorem cells5 : Yba.prog.cellsOf 5 = 1 := by kernel_rfl
theorem cells3C : Yba.prog.cellsOf 3 = 1 := by kernel_rfl

def of6 (a b c d e f : Int) : Nat → Int
  | 0 => a | 1 => b | 2 => c | 3 => d | 4 => e | _ => f

theorem of6_all {p : Int → Prop} {a b c d e f : Int} (h0 : p a) (h1 : p b) (h2 : p c) (h3 : p d) (h4 : p e) (h5 : p f) : ∀ k, k < 6 → p (of6 a b c d e f k) := six h0 h1 h2 h3 h4 h5

theorem u8_wf {n : Int} (h : (Lit.int .u8 n).wf = true) : 0 ≤ n ∧ n ≤ 255 := by
  simp [Lit.wf, IntKind.min, IntKind.max, IntKind.signed, IntKind.bits] at h
  omega

theorem trod_array6 {H : Type} {enc : TypeId × Value → H} {P : Program} {w : World} {base : Nat} {spare : Nat → Bool} {held : Bool} {t e : TypeId} {fuel : Nat} {c0 c1 c2 c3 c4 c5 : Value} {x : DataW H × List MemPlace} (ht : P.underlying t = some (.array 6 e)) (hce : P.cellsOf e = 1)
    (h : DataW.trod enc P w base spare held fuel t [c0, c1, c2, c3, c4, c5] = some x) :
    ∃ y0 y1 y2 y3 y4 y5 n, x = (.agg [y0.1, y1.1, y2.1, y3.1, y4.1, y5.1], y0.2 ++ (y1.2 ++ (y2.2 ++ (y3.2 ++ (y4.2 ++ y5.2))))) ∧ DataW.trod enc P w base spare held n e [c0] = some y0 ∧ DataW.trod enc P w base spare held n e [c1] = some y1 ∧ DataW.trod enc P w base spare held n e [c2] = some y2 ∧
      DataW.trod enc P w base spare held n e [c3] = some y3 ∧ DataW.trod enc P w base spare held n e [c4] = some y4 ∧ DataW.trod enc P w base spare held n e [c5] = some y5 := by
  cases fuel with
  | zero => simp [DataW.trod] at h
  | succ n =>
    unfold DataW.trod at h
    rw [ht] at h
    have r6 : List.range 6 = [0, 1, 2, 3, 4, 5] := rfl
    simp [r6, hce] at h
    obtain ⟨_, h⟩ := h
    cases h0 : DataW.trod enc P w base spare held n e [c0] with
    | none => simp [h0] at h
    | some y0 =>
      cases h1 : DataW.trod enc P w base spare held n e [c1] with
      | none => simp [h0, h1] at h
      | some y1 =>
        cases h2 : DataW.trod enc P w base spare held n e [c2] with
        | none => simp [h0, h1, h2] at h
        | some y2 =>
          cases h3 : DataW.trod enc P w base spare held n e [c3] with
          | none => simp [h0, h1, h2, h3] at h
          | some y3 =>
            cases h4 : DataW.trod enc P w base spare held n e [c4] with
            | none => simp [h0, h1, h2, h3, h4] at h
            | some y4 =>
              cases h5 : DataW.trod enc P w base spare held n e [c5] with
              | none => simp [h0, h1, h2, h3, h4, h5] at h
              | some y5 =>
                simp [h0, h1, h2, h3, h4, h5] at h
                exact ⟨y0, y1, y2, y3, y4, y5, n, h.symm, h0, h1, h2, h3, h4, h5⟩

def lits (r : Nat → Int) {H : Type} : DataW H := .agg [.lit (.int .u8 (r 0)), .lit (.int .u8 (r 1)), .lit (.int .u8 (r 2)), .lit (.int .u8 (r 3)), .lit (.int .u8 (r 4)), .lit (.int .u8 (r 5))]

/-- Six bytes, opened. -/
theorem open6 {H : Type} {enc : TypeId × Value → H} {w : World} {base : Nat} {spare : Nat → Bool} {held : Bool} {fuel : Nat} {c0 c1 c2 c3 c4 c5 : Value} {x : DataW H × List MemPlace}
    (h : DataW.trod enc Yba.prog w base spare held fuel 33 [c0, c1, c2, c3, c4, c5] = some x) :
    ∃ r : Nat → Int, (∀ k, k < 6 → (Lit.int .u8 (r k)).wf = true) ∧ c0 = .int .u8 (r 0) ∧ c1 = .int .u8 (r 1) ∧ c2 = .int .u8 (r 2) ∧ c3 = .int .u8 (r 3) ∧ c4 = .int .u8 (r 4) ∧ c5 = .int .u8 (r 5) ∧ x = (lits r, []) := by
  obtain ⟨y0, y1, y2, y3, y4, y5, m, hx, hy0, hy1, hy2, hy3, hy4, hy5⟩ := trod_array6 Yba.underlying33 cells5 h
  obtain ⟨r0, e0, rfl, x0⟩ := DataW.trod_int Yba.underlying5 hy0
  obtain ⟨r1, e1, rfl, x1⟩ := DataW.trod_int Yba.underlying5 hy1
  obtain ⟨r2, e2, rfl, x2⟩ := DataW.trod_int Yba.underlying5 hy2
  obtain ⟨r3, e3, rfl, x3⟩ := DataW.trod_int Yba.underlying5 hy3
  obtain ⟨r4, e4, rfl, x4⟩ := DataW.trod_int Yba.underlying5 hy4
  obtain ⟨r5, e5, rfl, x5⟩ := DataW.trod_int Yba.underlying5 hy5
  simp at e0 e1 e2 e3 e4 e5
  subst e0 e1 e2 e3 e4 e5
  exact ⟨of6 r0 r1 r2 r3 r4 r5, of6_all (p := fun n => (Lit.int .u8 n).wf = true) x0 x1 x2 x3 x4 x5, rfl, rfl, rfl, rfl, rfl, rfl, hx⟩

theorem shut6 {H : Type} {enc : TypeId × Value → H} {w : World} {base : Nat} {spare : Nat → Bool} {held : Bool} (n : Nat) (r : Nat → Int) (h : ∀ k, k < 6 → (Lit.int .u8 (r k)).wf = true) :
    DataW.trod enc Yba.prog w base spare held (n + 2) 33 [.int .u8 (r 0), .int .u8 (r 1), .int .u8 (r 2), .int .u8 (r 3), .int .u8 (r 4), .int .u8 (r 5)] = some (lits r, []) := by
  have h0 := h 0 (by decide)
  have h1 := h 1 (by decide)
  have h2 := h 2 (by decide)
  have h3 := h 3 (by decide)
  have h4 := h 4 (by decide)
  have h5 := h 5 (by decide)
  simp [DataW.trod, Yba.underlying33, Yba.underlying5, cells33, cells5, h0, h1, h2, h3, h4, h5, show List.range 6 = [0, 1, 2, 3, 4, 5] from rfl, lits]

theorem list17 {α : Type} {cs : Array α} (h : cs.size = 17) : ∃ c0 c1 c2 c3 c4 c5 c6 c7 c8 c9 c10 c11 c12 c13 c14 c15 c16, cs = #[c0, c1, c2, c3, c4, c5, c6, c7, c8, c9, c10, c11, c12, c13, c14, c15, c16] := by
  obtain ⟨l⟩ := cs
  match l, h with
  | [c0, c1, c2, c3, c4, c5, c6, c7, c8, c9, c10, c11, c12, c13, c14, c15, c16], _ => exact ⟨c0, c1, c2, c3, c4, c5, c6, c7, c8, c9, c10, c11, c12, c13, c14, c15, c16, rfl⟩

def dIn {H : Type} (ms rs : Nat → Int) (al x en px sh : Int) : DataW H := .agg [lits ms, lits rs, .lit (.int .u8 al), .lit (.int .u8 x), .lit (.int .u8 en), .lit (.int .u8 px), .lit (.int .i64 sh)]

theorem open35 {H : Type} {enc : TypeId × Value → H} {w : World} {base : Nat} {spare : Nat → Bool} {held : Bool} {cs : Array Value} {d : DataW H} {p : List MemPlace} (hs : cs.size = 17) (h : DataW.Trod enc Yba.prog w base spare held 35 (.agg cs) d p) :
    ∃ (ms rs : Nat → Int) (al x en px sh : Int), cs = inArr ms rs al x en px sh ∧ d = dIn ms rs al x en px sh ∧ p = [] ∧ (∀ k, k < 6 → (Lit.int .u8 (ms k)).wf = true) ∧ (∀ k, k < 6 → (Lit.int .u8 (rs k)).wf = true) ∧
      (Lit.int .u8 al).wf = true ∧ (Lit.int .u8 x).wf = true ∧ (Lit.int .u8 en).wf = true ∧ (Lit.int .u8 px).wf = true ∧ (Lit.int .i64 sh).wf = true := by
  obtain ⟨c0, c1, c2, c3, c4, c5, c6, c7, c8, c9, c10, c11, c12, c13, c14, c15, c16, rfl⟩ := list17 hs
  obtain ⟨fuel, hf⟩ := h
  obtain ⟨xs, n, _, hx, hl, hlen, hf⟩ := DataW.trod_struct Yba.underlying35 hf
  match xs, hlen with
  | [y0, y1, y2, y3, y4, y5, y6], _ =>
    have g0 : DataW.trod enc Yba.prog w base spare held n 33 [c0, c1, c2, c3, c4, c5] = some y0 := by have := hf 0 _ rfl; simpa [cells33, Value.cells] using this
    have g1 : DataW.trod enc Yba.prog w base spare held n 33 [c6, c7, c8, c9, c10, c11] = some y1 := by have := hf 1 _ rfl; simpa [cells33, Value.cells] using this
    have g2 : DataW.trod enc Yba.prog w base spare held n 5 [c12] = some y2 := by have := hf 2 _ rfl; simpa [cells5, Value.cells] using this
    have g3 : DataW.trod enc Yba.prog w base spare held n 5 [c13] = some y3 := by have := hf 3 _ rfl; simpa [cells5, Value.cells] using this
    have g4 : DataW.trod enc Yba.prog w base spare held n 5 [c14] = some y4 := by have := hf 4 _ rfl; simpa [cells5, Value.cells] using this
    have g5 : DataW.trod enc Yba.prog w base spare held n 5 [c15] = some y5 := by have := hf 5 _ rfl; simpa [cells5, Value.cells] using this
    have g6 : DataW.trod enc Yba.prog w base spare held n 3 [c16] = some y6 := by have := hf 6 _ rfl; simpa [cells3C, Value.cells] using this
    obtain ⟨ms, hm, rfl, rfl, rfl, rfl, rfl, rfl, rfl⟩ := open6 g0
    obtain ⟨rs, hr, rfl, rfl, rfl, rfl, rfl, rfl, rfl⟩ := open6 g1
    obtain ⟨al, e2, rfl, w2⟩ := DataW.trod_int Yba.underlying5 g2
    obtain ⟨x, e3, rfl, w3⟩ := DataW.trod_int Yba.underlying5 g3
    obtain ⟨en, e4, rfl, w4⟩ := DataW.trod_int Yba.underlying5 g4
    obtain ⟨px, e5, rfl, w5⟩ := DataW.trod_int Yba.underlying5 g5
    obtain ⟨sh, e6, rfl, w6⟩ := DataW.trod_int Yba.underlying3 g6
    simp at e2 e3 e4 e5 e6
    subst e2 e3 e4 e5 e6
    simp at hx
    exact ⟨ms, rs, al, x, en, px, sh, rfl, hx.1, hx.2, hm, hr, w2, w3, w4, w5, w6⟩

theorem shut35 {H : Type} {enc : TypeId × Value → H} {w : World} {base : Nat} {spare : Nat → Bool} {held : Bool} {ms rs : Nat → Int} {al x en px sh : Int} (hm : ∀ k, k < 6 → (Lit.int .u8 (ms k)).wf = true) (hr : ∀ k, k < 6 → (Lit.int .u8 (rs k)).wf = true)
    (w2 : (Lit.int .u8 al).wf = true) (w3 : (Lit.int .u8 x).wf = true) (w4 : (Lit.int .u8 en).wf = true) (w5 : (Lit.int .u8 px).wf = true) (w6 : (Lit.int .i64 sh).wf = true) :
    DataW.Trod enc Yba.prog w base spare held 35 (.agg (inArr ms rs al x en px sh)) (dIn ms rs al x en px sh) [] := by
  have i5 : ∀ n : Int, (Lit.int .u8 n).wf = true → DataW.trod enc Yba.prog w base spare held 2 5 [.int .u8 n] = some (.lit (.int .u8 n), []) := fun n hn => by simp [DataW.trod, Yba.underlying5, hn]
  have i3 : DataW.trod enc Yba.prog w base spare held 2 3 [.int .i64 sh] = some (.lit (.int .i64 sh), []) := by simp [DataW.trod, Yba.underlying3, w6]
  have g0 := shut6 (enc := enc) (w := w) (base := base) (spare := spare) (held := held) 0 ms hm
  have g1 := shut6 (enc := enc) (w := w) (base := base) (spare := spare) (held := held) 0 rs hr
  refine ⟨3, ?_⟩
  have := trod_struct_mk (enc := enc) (w := w) (base := base) (spare := spare) (held := held) (n := 2) (cs := (Value.agg (inArr ms rs al x en px sh)).cells.toList)
    (xs := [(lits ms, []), (lits rs, []), (.lit (.int .u8 al), []), (.lit (.int .u8 x), []), (.lit (.int .u8 en), []), (.lit (.int .u8 px), []), (.lit (.int .i64 sh), [])]) Yba.underlying35 (by rw [cells35]; rfl)
    (by simp [Value.cells, inArr, cells33, cells5, cells3C, g0, g1, i5 al w2, i5 x w3, i5 en w4, i5 px w5, i3])
  simpa [dIn] using this

set_option maxRecDepth 100000 in
theorem liftedC (os : Os) (started : os.Started) (H : Type) (enc : TypeId × Value → H) :
    ReturnsInHanded {} Yba.checked os 4 .any (Rows.lawS4315CCountSpec.pre6 enc Yba.prog Yba.f4 Rows.lawS4315CCountRow.domain false) (Rows.lawS4315CCountSpec.post enc Yba.prog Yba.f4 false true false false) := by
  refine returnsInHanded_of_change (C := Yba.checked) ownC started (by kernel_rfl) Yba.func4
    (ChangeSpec.witness6 (enc := enc) (C := Yba.checked) false ⟨#[], #[.agg #[.int .u8 0, .int .u8 0, .int .u8 0, .int .u8 0, .int .u8 0, .int .u8 0, .int .u8 0, .int .u8 0, .int .u8 0, .int .u8 0, .int .u8 0, .int .u8 0, .int .u8 0, .int .u8 0, .int .u8 0, .int .u8 0, .int .i64 0]], []⟩ 8 (by kernel_rfl) (by kernel_rfl) (by kernel_rfl) (by kernel_rfl)) ?_
  intro W base args ds gs before hval0 hW hcnd _
  have hval : ∀ (j : Nat) t v, Yba.f4.params[j]? = some t → args[j]? = some v → Value.okWide Yba.prog W .any base t v := hval0
  have hW' := hW
  obtain ⟨p, q, hA0, hV, rfl, hfz, hnd⟩ := hW
  have hA : DataW.TrodAll enc Yba.prog W 0 (fun _ => true) true Yba.f4.params.toList args.toList ds p := hA0
  rw [Yba.params4] at hA hval
  obtain ⟨v0, d0, rfl, rfl, h0⟩ := trodAll_one hA
  obtain ⟨rfl, rfl⟩ := trodVars_none hV
  obtain ⟨cs, rfl, hsz⟩ := okWide_struct Yba.underlying35 (hval 0 35 v0 rfl rfl)
  rw [cells35] at hsz
  obtain ⟨ms, rs, al, x, en, px, sh, rfl, rfl, rfl, hm, hr, w2, w3, w4, w5, w6⟩ := open35 hsz h0
  clear hA0 hval0
  simp only [List.append_nil] at hW'
  refine (lawCGo ms rs al x en px sh W (fun k hk => u8_wf (hm k hk)) (fun k hk => u8_wf (hr k hk)) (u8_wf w2) (u8_wf w3) (u8_wf w4) (u8_wf w5)).mono fun e W' ⟨he, bel⟩ => ?_
  subst he
  exact ⟨_, rfl, _, _, _, [], [], [], hW', trodAll_mk1 (shut_bool Yba.underlying4 _), trodAll_mk1 (shut35 hm hr w2 w3 w4 w5 w6), rfl, bel.frame _, fun h => by cases h⟩

theorem lawS4315CCount_holds : Rows.LawS4315CCountSaid :=
  OpenClaim.holds_of_wide 4 Yba.f4 rfl rfl rfl rfl rfl rfl rfl ⟨rfl, rfl, rfl, rfl, rfl⟩ rfl rfl rfl rfl rfl (by kernel_rfl) Yba.func4 (by kernel_rfl)
    (of_decide_eq_true (by kernel_rfl)) (by unfold Func.isWrapper; first | (rw [if_pos (by decide +kernel)]; kernel_rfl) | (rw [if_neg (by decide +kernel)]; exact ⟨rfl, rfl⟩))
    (fun os started H enc _ => liftedC os started H enc)
#print axioms lawS4315CCount_holds
end Go.Proofs.Ybulkckim
