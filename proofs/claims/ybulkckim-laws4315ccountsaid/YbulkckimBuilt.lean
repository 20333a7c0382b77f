import Derived.Test.YbulkckimBase
namespace Go.Proofs.Ybulkckim
open Go.RowKit Go.Shelf

def pick (ms : Nat → Int) (i q : Nat) : Bool := decide (q ≠ i) && bit (ms i) q

/-- The law's world: its five blocks, and the nodes below i. -/
structure Built (w W : World) (ms rs : Nat → Int) (al x en px sh : Int) (NB : Nat → Nat) (i : Nat) : Prop where
  below : Below w.heap.size w W
  q0 : W.heap[w.heap.size]? = some (.cells (inArr ms rs al x en px sh) 35 (0, 0))
  q1 : W.heap[w.heap.size + 1]? = some (.cells idsArr 37 (0, 0))
  q2 : W.heap[w.heap.size + 2]? = some (.cells #[.string ⟨#[]⟩, .string ⟨#[48]⟩, .string ⟨#[49]⟩, .string ⟨#[48, 49]⟩, .string ⟨#[49, 50]⟩] 38 (0, 0))
  q3 : W.heap[w.heap.size + 3]? = some (.cells #[.int .i64 4, .int .i64 2, .int .i64 16] 40 (0, 0))
  q4 : ∃ nd : Array Value, W.heap[w.heap.size + 4]? = some (.cells nd 42 (0, 0)) ∧ nd.size = 6 ∧ ∀ k, k < i → nd[k]? = some (.pointer (some ⟨NB k, 0, none⟩))
  nodes : ∀ k, k < i → NodeAt W (NB k) k (sel (pick ms k) 6) (sel (pick rs k) 6)
  inj : ∀ a, a < i → ∀ b, b < i → NB a = NB b → a = b

/-- A node abides what turns no block but those of one type. -/
theorem NodeAt.other {W W' : World} {N k : Nat} {mem rev : List Nat} (h : NodeAt W N k mem rev)
    (hc : ∀ (g : Nat) (cs : Array Value) (t : TypeId), W.heap[g]? = some (.cells cs t (0, 0)) → t ≠ 42 → W'.heap[g]? = some (.cells cs t (0, 0))) : NodeAt W' N k mem rev := by
  obtain ⟨⟨ca, h1⟩, h2, ⟨T, m₀, E, S, V, U, L, M, h3, h4, h5, h6⟩, m₁, ov, iv, h7⟩ := h
  have hN := hc _ _ _ h1 (by decide)
  have hcell : ∀ j, W'.cell? ⟨N, j, none⟩ = W.cell? ⟨N, j, none⟩ := fun j => by simp [World.cell?, hN, h1]
  have hrow : ∀ {n₀ : Nat} {e : TypeId} {v : Value} {n : Nat} {xs : List Value}, W.ownsRow n₀ e 1 v n xs → e ≠ 42 → W'.ownsRow n₀ e 1 v n xs := fun {n₀ e v n xs} ho he => row_other ho fun g hg => by
    obtain ⟨c, hcur⟩ := row_tag ho hg
    rw [hcur]; exact hc g _ _ hcur he
  refine ⟨⟨ca, hN⟩, (hcell 1).trans h2, ⟨T, m₀, E, S, V, U, L, M, (hcell 0).trans h3, ?_, h5, h6⟩, m₁, ov, iv, (hcell 50).trans h7.o, (hcell 52).trans h7.i, hrow h7.ro (by decide), hrow h7.ri (by decide), h7.six⟩
  obtain ⟨ce, e1, e2, e3⟩ := h4.hE
  obtain ⟨cs, s1, s2, s3⟩ := h4.hS
  exact ⟨hc _ _ _ h4.hT (by decide), ⟨ce, hc _ _ _ e1 (by decide), e2, e3⟩, ⟨cs, hc _ _ _ s1 (by decide), s2, s3⟩, fun j hj => hrow (h4.rV j hj) (by decide), fun j hj => let ⟨xs, hx⟩ := h4.rU j hj; ⟨xs, hrow hx (by decide)⟩, h4.dV, h4.dU, h4.nT, h4.nE, h4.nS, h4.six⟩

theorem Built.keep {w W W' : World} {ms rs : Nat → Int} {al x en px sh : Int} {NB : Nat → Nat} {i : Nat} (h : Built w W ms rs al x en px sh NB i) (hb : Below W.heap.size W W') : Built w W' ms rs al x en px sh NB i := by
  obtain ⟨nd, n1, n2, n3⟩ := h.q4
  exact ⟨h.below.trans (hb.mono h.below.size), obj_keep h.q0 hb, obj_keep h.q1 hb, obj_keep h.q2 hb, obj_keep h.q3 hb, ⟨nd, obj_keep n1 hb, n2, n3⟩, fun k hk => (h.nodes k hk).keep hb, h.inj⟩

theorem built_step {w wo W : World} {ms rs : Nat → Int} {al x en px sh : Int} {NB : Nat → Nat} {i N : Nat} (h : Built w wo ms rs al x en px sh NB i) (hi : i < 6) (hb : Below wo.heap.size wo W)
    (hN : NodeAt W N i (sel (pick ms i) 6) (sel (pick rs i) 6)) (hl : wo.heap.size ≤ N) :
    Built w (W.setCell ⟨w.heap.size + 4, i, none⟩ (.pointer (some ⟨N, 0, none⟩))) ms rs al x en px sh (upd NB i N) (i + 1) := by
  have h' := h.keep hb
  obtain ⟨nd, n1, n2, n3⟩ := h'.q4
  have far : ∀ g, g ≠ w.heap.size + 4 → (W.setCell ⟨w.heap.size + 4, i, none⟩ (.pointer (some ⟨N, 0, none⟩))).heap[g]? = W.heap[g]? := fun g hg => Below.heap_setCell _ _ _ _ hg
  have hc : ∀ (g : Nat) (cs : Array Value) (t : TypeId), W.heap[g]? = some (.cells cs t (0, 0)) → t ≠ 42 → (W.setCell ⟨w.heap.size + 4, i, none⟩ (.pointer (some ⟨N, 0, none⟩))).heap[g]? = some (.cells cs t (0, 0)) := fun g cs t hg ht => by
    rw [far g (fun e => by rw [e, n1] at hg; cases hg; exact ht rfl)]; exact hg
  refine ⟨Below.setCell h'.below (by simp) _, hc _ _ _ h'.q0 (by decide), hc _ _ _ h'.q1 (by decide), hc _ _ _ h'.q2 (by decide), hc _ _ _ h'.q3 (by decide), ⟨_, blk_setCell_row n1 i _, by simpa using n2, ?_⟩, ?_, ?_⟩
  · intro k hk
    by_cases e : k = i
    · subst e; simp [upd, n2, hi]
    · have := n3 k (by omega)
      rw [Array.getElem?_setIfInBounds_ne (by omega)]
      simp [upd, e, this]
  · intro k hk
    by_cases e : k = i
    · subst e; simp only [upd, if_true]; exact hN.other hc
    · simp only [upd, if_neg e]; exact (h'.nodes k (by omega)).other hc
  · have hlt : ∀ k, k < i → NB k < wo.heap.size := fun k hk => by
      obtain ⟨⟨ca, h1⟩, _⟩ := h.nodes k hk
      exact (Array.getElem?_eq_some_iff.1 h1).1
    intro a ha b hb' hab
    simp only [upd] at hab
    split at hab <;> split at hab
    · omega
    · have := hlt b (by omega); omega
    · have := hlt a (by omega); omega
    · exact h.inj a (by omega) b (by omega) hab
end Go.Proofs.Ybulkckim
