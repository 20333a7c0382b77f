/-
  THE TOLD CARD OF LawS4314CResult, PROVED. The walk holds for every answer of fmt's (the law does not look at the error's reason). The frame: the kit's LabelTold and HexbadSeven, turned to five arguments.
-/
import Derived.Test.YbulkckhyFmtCards
import Derived.Test.YbulkckhyFmtLaw
import Derived.ProofKit
import Derived.Stop.JoinedAt
import Derived.Stop.Texts
import Derived.Stop.JoinedTold
import Derived.SevenToldRow
import Derived.SizedLaws
import Derived.OpenShut
import Derived.ShutString
namespace Go.Proofs.YbulkckhyFmt
open Go.ChangeShapes Go.WideShapes Go.ChangeAt Go.RowKit Go.Kit
open Go.ChangeMaps (open_string shut_string)
open Go.Extern.Stop Go.Stop Go.Extern

theorem ownF : ownKnob Ybaf.prog.godebug = none := by kernel_rfl

theorem law_all (F : Interp) (path name other sval : ByteArray) (kind : Int) (w : World) (hF : F.answers w.tape) (h0 : 0 ≤ kind) (h1 : kind ≤ 255)
    (hp : path.size ≤ 140737488351232) (hn : name.size ≤ 140737488351232) :
    Calls Ybaf.prog 3 #[.string path, .string name, .string other, .int .u8 kind, .string sval] w fun e w' => e = .returned (.bool true) ∧ Below w.heap.size w w' := by
  have hk : kind % 7 = 0 ∨ kind % 7 = 1 ∨ kind % 7 = 2 ∨ kind % 7 = 3 ∨ kind % 7 = 4 ∨ kind % 7 = 5 ∨ kind % 7 = 6 := by omega
  rcases hk with h | h | h | h | h | h | h
  · exact law0 F path name other sval kind w hF h0 h1 h hp hn
  · rcases Bool.eq_false_or_eq_true sval.toList.isEmpty with hs | hs
    · exact law1e F path name other sval kind w hF h0 h1 h hp hn hs
    · exact law1f F path name other sval kind w hF h0 h1 h hp hn hs
  · exact law2 F path name other sval kind w hF h0 h1 h hp hn
  · exact law3 F path name other sval kind w hF h0 h1 h hp hn
  · exact law4 F path name other sval kind w hF h0 h1 h hp hn
  · exact law5 F path name other sval kind w hF h0 h1 h hp hn
  · exact law6 F path name other sval kind w hF h0 h1 h hp hn

set_option maxRecDepth 100000 in
theorem t_lifted (os : Os) (started : os.Started) (H : Type) (enc : TypeId × Value → H) :
    ReturnsInTold none {} Ybaf.checked os 3 .any Input.okWide ((OpenSpec.ofChange Rows.lawS4314CResultSpec).preRow enc Ybaf.prog Ybaf.f3 [] false []) (fun F => ((OpenSpec.ofChange Rows.lawS4314CResultSpec).at F).post enc Ybaf.prog Ybaf.f3 false true false false) (aloneAtReturn Ybaf.prog) nothingAlways := by
  refine returnsInTold_of_row (C := Ybaf.checked) (s := OpenSpec.ofChange Rows.lawS4314CResultSpec) (by kernel_rfl) ownF started (by kernel_rfl) Ybaf.func3
    (OpenSpec.witness_stopped (enc := enc) (C := Ybaf.checked) false ⟨#[], #[.string ⟨#[]⟩, .string ⟨#[]⟩, .string ⟨#[]⟩, .int .u8 0, .string ⟨#[]⟩], []⟩ 8 (by kernel_rfl) (by kernel_rfl) (by kernel_rfl) (by kernel_rfl)) ?_
  intro F W base args ds gs before _ hF hval0 hW _ _ hsz _ _
  have hval : ∀ (j : Nat) t v, Ybaf.f3.params[j]? = some t → args[j]? = some v → Value.okWide Ybaf.prog W .any base t v := hval0
  have hW' := hW
  obtain ⟨p, q, hA0, hV, rfl, hfz, hnd⟩ := hW
  have hA : DataW.TrodAll enc Ybaf.prog W 0 (fun _ => true) true Ybaf.f3.params.toList args.toList ds p := hA0
  rw [Ybaf.params3] at hA hval
  obtain ⟨v0, vs0, d0, ds0, p0, q0, hargs, rfl, rfl, h0, r0⟩ := trodAll_cons hA
  obtain ⟨v1, vs1, d1, ds1, p1, q1, rfl, rfl, rfl, h1, r1⟩ := trodAll_cons r0
  obtain ⟨v2, vs2, d2, ds2, p2, q2, rfl, rfl, rfl, h2, r2⟩ := trodAll_cons r1
  obtain ⟨v3, vs3, d3, ds3, p3, q3, rfl, rfl, rfl, h3, r3⟩ := trodAll_cons r2
  obtain ⟨v4, vs4, d4, ds4, p4, q4, rfl, rfl, rfl, h4, r4⟩ := trodAll_cons r3
  obtain ⟨rfl, rfl, rfl⟩ := trodAll_nil r4
  obtain rfl : args = #[v0, v1, v2, v3, v4] := by cases args; simp_all
  obtain ⟨rfl, rfl⟩ := trodVars_none hV
  obtain ⟨path, rfl, rfl, rfl, w0⟩ := open_string Ybaf.underlying9 (hval 0 9 v0 rfl rfl) h0
  obtain ⟨nm, rfl, rfl, rfl, w1⟩ := open_string Ybaf.underlying9 (hval 1 9 v1 rfl rfl) h1
  obtain ⟨other, rfl, rfl, rfl, w2⟩ := open_string Ybaf.underlying9 (hval 2 9 v2 rfl rfl) h2
  obtain ⟨kind, rfl, rfl, rfl, w3⟩ := open_int Ybaf.underlying5 (hval 3 5 v3 rfl rfl) h3
  obtain ⟨sval, rfl, rfl, rfl, w4⟩ := open_string Ybaf.underlying9 (hval 4 9 v4 rfl rfl) h4
  clear hA0 hval0
  have hlen0 : path.data.toList.length ≤ reachBytes := sized_string hsz (j := 0) (t := 9) rfl rfl
  have hlen1 : nm.data.toList.length ≤ reachBytes := sized_string hsz (j := 1) (t := 9) rfl rfl
  have hp : path.size ≤ 140737488351232 := by simpa [reachBytes] using hlen0
  have hn : nm.size ≤ 140737488351232 := by simpa [reachBytes] using hlen1
  have hk : 0 ≤ kind ∧ kind ≤ 255 := by
    have := w3
    simp [Lit.wf, IntKind.min, IntKind.max, IntKind.signed, IntKind.bits] at this
    omega
  refine (law_all F.told path nm other sval kind W hF hk.1 hk.2 hp hn).mono fun e W' ⟨he, bel⟩ => ?_
  subst he
  exact ⟨_, rfl, _, _, _, [], [], [], hW', trodAll_mk1 (shut_bool Ybaf.underlying4 _), (trodAll_cons_mk (shut_string Ybaf.underlying9 w0) (trodAll_cons_mk (shut_string Ybaf.underlying9 w1) (trodAll_cons_mk (shut_string Ybaf.underlying9 w2) (trodAll_cons_mk (shut_int Ybaf.underlying5 w3) (trodAll_cons_mk (shut_string Ybaf.underlying9 w4) trodAll_mk0))))), rfl, bel.frame _, fun h => by cases h⟩

theorem laidOutF : laidOutB Ybaf.pinned.checked.prog = true := by kernel_rfl
theorem stopsF : Rows.lawS4314CResultRow.stops = Ybaf.pinned.checked.prog.stops := by kernel_rfl
theorem stopKnobsF : Ybaf.pinned.checked.prog.stopKnobs = [] := by kernel_rfl
theorem quietF (os : Os) : Stop.quiet Ybaf.pinned.checked.prog os := by
  intro k hk
  rw [stopKnobsF] at hk
  cases hk

theorem lawS4314CResult_told : Rows.LawS4314CResultToldSaid :=
  Claim7.holds_of_told_any 3 Ybaf.f3 _ _ [] _ _ _ (by kernel_rfl) rfl rfl rfl laidOutF (by kernel_rfl) rfl ⟨rfl, rfl, rfl, rfl, rfl, rfl, rfl⟩ rfl rfl (by kernel_rfl) (by kernel_rfl) Ybaf.func3 (by kernel_rfl)
    (of_decide_eq_true (by kernel_rfl)) (by unfold Func.isWrapper; rw [if_neg (of_decide_eq_false (by kernel_rfl))]; exact ⟨rfl, rfl⟩) stopsF rfl stopKnobsF.symm (by kernel_rfl)
    (by kernel_rfl) (by kernel_rfl) (by kernel_rfl) (by kernel_rfl) (by kernel_rfl) (by kernel_rfl) (by kernel_rfl) (by kernel_rfl) (by kernel_rfl) rfl (by kernel_rfl) rfl rfl
    rfl rfl
    rfl (by kernel_rfl) (by kernel_rfl) (by kernel_rfl) (by decide) (by kernel_rfl)
    (OpenClaim.moreEntering_of (by kernel_rfl) (by kernel_rfl) (by kernel_rfl) (by kernel_rfl) (by kernel_rfl) (by kernel_rfl) (by kernel_rfl) (by kernel_rfl) (by kernel_rfl) (by kernel_rfl))
    ⟨_, WideRow.started_initial, quietF _⟩
    (fun os started _ H enc _ => t_lifted os started H enc)

#print axioms lawS4314CResult_told
end Go.Proofs.YbulkckhyFmt
