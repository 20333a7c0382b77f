import Derived.Test.YbulkckimMU
namespace Go.Proofs.Ybulkckim
open Go.RowKit Go.Shelf

theorem res12 (tmps : Array Value) (W : World) (p : Nat) (b : Bool) (h10 : tmps.getD 10 undef = .pointer (some ⟨p, 0, none⟩)) (hc : W.cell? ⟨p, 0, none⟩ = some (.bool b)) :
    (results Yba.f12 tmps).run Yba.prog W = .ok (.bool b) W := by
  have hr : Yba.f12.results = #[.cell 10 4] := rfl
  have hu := Yba.underlying4
  have h10' : tmps[10]?.getD undef = .pointer (some ⟨p, 0, none⟩) := by simpa using h10
  simp only [results, hr]
  go_simp

def mark (D : Nat) : Deferred := { target := .collected D, args := #[] }

/-- The marks of the loops over iterators that are over: each has its block, with no deferred call in it. -/
structure Marks (lo hi : Nat) (ds : List Deferred) (W : World) (Ds : List Nat) : Prop where
  eq : ds = Ds.map mark
  nodup : Ds.Nodup
  at' : ∀ D ∈ Ds, lo ≤ D ∧ D < hi ∧ W.heap[D]? = some (.deferred (some []))

theorem Marks.keep {lo hi hi' : Nat} {ds : List Deferred} {W W' : World} {Ds : List Nat} (h : Marks lo hi ds W Ds) (hh : hi ≤ hi') (hk : ∀ D, D < hi → W.heap[D]? = some (.deferred (some [])) → W'.heap[D]? = some (.deferred (some []))) : Marks lo hi' ds W' Ds :=
  ⟨h.eq, h.nodup, fun D hD => let ⟨a, b, c⟩ := h.at' D hD; ⟨a, by omega, hk D b c⟩⟩

theorem Marks.cons {lo hi hi' : Nat} {ds : List Deferred} {W : World} {Ds : List Nat} (h : Marks lo hi ds W Ds) {D : Nat} (hD : hi ≤ D) (hl : lo ≤ hi) (hD' : D < hi') (hK : W.heap[D]? = some (.deferred (some []))) : Marks lo hi' ({ target := .collected D, args := #[] } :: ds) W (D :: Ds) :=
  ⟨by rw [h.eq]; rfl, List.nodup_cons.2 ⟨fun hm => by have := (h.at' D hm).2.1; omega, h.nodup⟩, fun E hE => by
    rcases List.mem_cons.1 hE with rfl | hE
    · exact ⟨by omega, hD', hK⟩
    · obtain ⟨a, b, c⟩ := h.at' E hE; exact ⟨a, by omega, c⟩⟩

theorem Marks.fr {lo hi : Nat} {ds : List Deferred} {W W' : World} {Ds : List Nat} {p : Nat → Prop} (h : Marks lo hi ds W Ds) (hf : Fr p W W') (hp : ∀ b, p b → ∃ c t, W.heap[b]? = some (.cells c t (0, 0))) : Marks lo hi ds W' Ds :=
  h.keep (Nat.le_refl _) (fun D _ hK => hf.obj hK (fun e => by obtain ⟨c, t, hc⟩ := hp D e; rw [hK] at hc; cases hc))

theorem Marks.set {lo hi : Nat} {ds : List Deferred} {W : World} {Ds : List Nat} (h : Marks lo hi ds W Ds) {b : Nat} {c : Array Value} {t : TypeId} (hb : W.heap[b]? = some (.cells c t (0, 0))) (i : Nat) (v : Value) : Marks lo hi ds (W.setCell ⟨b, i, none⟩ v) Ds :=
  h.keep (Nat.le_refl _) (fun D _ hK => (Below.heap_setCell _ _ _ _ (fun e => by rw [show D = b from e, hb] at hK; cases hK)).trans hK)

theorem leaves_marks {F : Fence} {n : Nat} {P : Program} {fn : Func} {tmps : Array Value} {R : Ending → World → Prop} {lo hi : Nat} : ∀ (Ds : List Nat) (ds : List Deferred) (W : World), Marks lo hi ds W Ds →
    (∀ W', Fr (fun b => b ∈ Ds) W W' → ∃ v, (results fn tmps).run P W' = .ok v W' ∧ R (.returned v) W') → LeavesInM F n P fn tmps R ds .returning W := by
  intro Ds
  induction Ds with
  | nil =>
    intro ds W h hR
    rw [h.eq]
    exact hR W (Fr.refl _ _)
  | cons D Ds ih =>
    intro ds W h hR
    rw [h.eq]
    obtain ⟨hnd, hnds⟩ := List.nodup_cons.1 h.nodup
    obtain ⟨a, b, hK⟩ := h.at' D (List.mem_cons_self ..)
    refine ⟨by simp, .inl ⟨D, _, rfl, run_takeDeferred hK, ?_⟩⟩
    have hfr : Fr (fun b => b ∈ D :: Ds) W (W.putObj D (.deferred none)) := by
      have hg := grownBy_putObj' W D (.deferred none)
      exact ⟨hg.os, hg.tape, hg.output, hg.size, fun k hk hp => hg.block k hk (fun e => hp (by cases e; exact List.mem_cons_self ..))⟩
    refine ih _ _ ⟨rfl, hnds, fun E hE => ?_⟩ (fun W' hW' => hR W' (hfr.trans ⟨hW'.os, hW'.tape, hW'.output, hW'.size, fun k hk hp => hW'.block k hk (fun e => hp (List.mem_cons_of_mem _ e))⟩))
    obtain ⟨a', b', c'⟩ := h.at' E (List.mem_cons_of_mem _ hE)
    exact ⟨a', b', (World.putObj_heap_other (fun e => hnd (by rw [← e]; exact hE))).trans c'⟩
end Go.Proofs.Ybulkckim
