import Derived.Test.YbulkckimIdNd
namespace Go.Proofs.Ybulkckim
open Go.RowKit

theorem idAddNd {B : Nat} {W : World} {N T mp fm : Nat} {R : List Nat} {L : Nat} {ca : Array Value} {ov av iv pv : Value} (h : Nd B W N T mp fm R L ca ov av iv pv) (k : Nat) (hk : k < 6) (hkR : k ∉ R) (hR : R.length ≤ 10) :
    Calls Yba.prog 45 #[.pointer (some ⟨N, 50, none⟩), .string (idB k)] W fun e W' => e = .returned (.bool true) ∧ ∃ ca' ov' av' iv', Nd B W' N T mp fm (R ++ [k]) L ca' ov' av' iv' pv ∧ Below B W W' := by
  rcases h.at' with ⟨hR0, hav, _⟩ | ⟨atm, es, c, hav, _⟩
  · subst hR0 hav
    exact idAddNd_nil h k hk
  · subst hav
    refine (idAddNd_some h k hk hkR hR).mono ?_
    rintro e W' ⟨rfl, ca', ov', iv', h1, h2⟩
    exact ⟨rfl, ca', ov', _, iv', h1, h2⟩

/-- byPrefix has turned, and nothing else of the node. -/
theorem Nd.turn {B : Nat} {W W2 : World} {N T mp fm pm : Nat} {R : List Nat} {L L2 : Nat} {ca ca2 : Array Value} {ov av iv pv : Value} (h : Nd B W N T mp fm R L ca ov av iv pv) (hN : W2.heap[N]? = some (.cells ca2 110 (0, 0))) (hsz : ca2.size = 69)
    (hca : ∀ i, i ≠ 54 → ca2[i]? = ca[i]?) (h54 : ca2[54]? = some (.map (some pm))) (hk : ∀ (b : Nat) (ob : Obj), W.heap[b]? = some ob → b ≠ N → b ≠ pm → (∀ cur, ob ≠ .cells cur 3 (0, 0)) → W2.heap[b]? = some ob)
    (hpm : ∀ cur t, W.heap[pm]? ≠ some (.cells cur t (0, 0))) (hby : ByAt B W2 pm L2) (q1 : B ≤ pm) (q2 : pm ≠ mp) (q3 : pm ≠ fm) (q4 : av ≠ .map (some pm)) (hs : W.heap.size ≤ W2.heap.size) :
    Nd B W2 N T mp fm R L2 ca2 ov av iv (.map (some pm)) := by
  have hmap : ∀ (b : Nat) (es : Array MapEntry) (c : Nat), W.heap[b]? = some (.map es c) → b ≠ pm → W2.heap[b]? = some (.map es c) := fun b es c hb hne => hk b _ hb (fun e => by rw [e, h.node] at hb; cases hb) hne (fun _ e => by cases e)
  have hrow : ∀ {e : TypeId} {v : Value} {n : Nat} {xs : List Value}, e ≠ 3 → e ≠ 110 → W.ownsRow B e 1 v n xs → W2.ownsRow B e 1 v n xs := fun {e v n xs} h3 h110 ho => row_other ho fun g hg => by
    obtain ⟨cc, hc⟩ := row_tag ho hg
    rw [hc]
    exact hk g _ hc (fun e => by rw [e, h.node] at hc; cases hc; exact h110 rfl) (fun e => hpm _ _ (by rw [← e]; exact hc)) (fun _ e => by cases e; exact h3 rfl)
  obtain ⟨hh, h9⟩ := h.c9
  refine ⟨hN, hsz, (hca 0 (by omega)).trans h.c0, (hca 1 (by omega)).trans h.c1, (hca 8 (by omega)).trans h.c8, ⟨hh, (hca 9 (by omega)).trans h9⟩, (hca 50 (by omega)).trans h.c50, (hca 51 (by omega)).trans h.c51, (hca 52 (by omega)).trans h.c52, (hca 53 (by omega)).trans h.c53, h54, (hca 58 (by omega)).trans h.c58, (hca 66 (by omega)).trans h.c66, ?_, hmap fm _ _ h.failed (Ne.symm q3), hrow (by decide) (by decide) h.ro, hrow (by decide) (by decide) h.ri, ?_, .inr ⟨pm, rfl, hby, q1, q2, q3, q4⟩, h.six, h.lN, h.lmp, h.lfm, h.ne, Nat.le_trans h.below hs⟩
  · obtain ⟨es, c, h1, h2⟩ := h.peers
    refine ⟨es, c, hmap mp _ _ h1 (Ne.symm q2), fun e he => ⟨(h2 e he).1, ?_⟩⟩
    obtain ⟨b, cur, a1, a2, a3, a4⟩ := (h2 e he).2
    exact ⟨b, cur, a1, a2, hk b _ a3 (fun e => by rw [e, h.node] at a3; cases a3) (fun e => hpm _ _ (by rw [← e]; exact a3)) (fun _ e => by cases e), a4⟩
  · rcases h.at' with h1 | ⟨atm, es, c, h1, h2, h3, h4, h5, h6⟩
    · exact .inl h1
    · exact .inr ⟨atm, es, c, h1, hmap atm _ _ h2 (fun e => q4 (by rw [h1, e])), h3, h4, h5, h6⟩

theorem idB_size2 (k : Nat) (hk : k < 6) : (idB k).size = 2 := by
  revert k; exact six (by decide) (by decide) (by decide) (by decide) (by decide) (by decide)

/-- reverseSet.add. -/
theorem revAddNd {B : Nat} {W : World} {N T mp fm : Nat} {R : List Nat} {L : Nat} {ca : Array Value} {ov av iv pv : Value} (h : Nd B W N T mp fm R L ca ov av iv pv) (k : Nat) (hk : k < 6) (hkR : k ∉ R) (hR : R.length ≤ 10) (hL : L ≤ 40) :
    Calls Yba.prog 39 #[.pointer (some ⟨N, 50, none⟩), .string (idB k)] W fun e W' => e = .returned (.bool true) ∧ ∃ ca' ov' av' iv' pv', Nd B W' N T mp fm (R ++ [k]) (L + 2) ca' ov' av' iv' pv' ∧ Below B W W' := by
  obtain ⟨fo, fc, hov⟩ := row_shape h.ro
  have h50 : W.cell? ⟨N, 50, none⟩ = some (.slice fo R.length fc) := by simp [World.cell?, h.node, h.c50, hov]
  have hI := idAddNd h k hk hkR hR
  rcases h.by' with hpv | ⟨pm, hpv, _⟩
  · subst hpv
    refine (revAdd_nil B N R.length (idB k) fo fc W (fun w' ca' => ca'.size = 69 ∧ ∃ ov' av' iv', Nd B w' N T mp fm (R ++ [k]) L ca' ov' av' iv' (.map none) ∧ Below B W w') (idB_size2 k hk) hR h50 (hI.mono ?_)).mono ?_
    · rintro e w' ⟨rfl, ca', ov', av', iv', h1, h2⟩
      obtain ⟨o1, c1, hs1⟩ := row_shape h1.ro
      exact ⟨rfl, ca', h1.node, h1.sz, ⟨o1, c1, (R ++ [k]).length, by simp, by rw [h1.c50, hs1]⟩, h1.c54, h1.below, h1.sz, ov', av', iv', h1, h2⟩
    · rintro e W2 ⟨rfl, w', ca', pm, ⟨hsz, ov', av', iv', h1, h2⟩, r1, r2, r3, r4⟩
      have lt : ∀ {b : Nat} {ob : Obj}, w'.heap[b]? = some ob → b < w'.heap.size := fun hb => (Array.getElem?_eq_some_iff.1 hb).1
      have hmp : ∃ es c, w'.heap[mp]? = some (.map es c) := let ⟨es, c, hh, _⟩ := h1.peers; ⟨es, c, hh⟩
      obtain ⟨es', c', hmp⟩ := hmp
      have lmp := lt hmp
      have lfm := lt h1.failed
      have hbl := h1.below
      have hbm : ByAt B W2 pm (L + 2) := by
        obtain ⟨es, c, a1, a2, a3, a4⟩ := r2
        exact ⟨es, c, a1, a2, fun i hi => let ⟨m, xs, b1, b2⟩ := a3 i hi; ⟨m, xs, by omega, b2⟩, a4⟩
      have hnd := h1.turn (pm := pm) r1 (by simpa using hsz) (fun i hi => Array.getElem?_setIfInBounds_ne (Ne.symm hi)) (by simp [hsz]) (fun b ob hb n1 _ n3 => r4.obj hb (fun e => by
        rcases e with e | ⟨_, cur, e⟩
        · exact n1 e
        · rw [hb] at e; cases e; exact n3 _ rfl)) (fun cur t e => by have := lt e; omega) hbm (by omega) (by omega) (by omega) (fun e => by
        rcases h1.at' with ⟨_, h5, _⟩ | ⟨atm, es, c, h5, h6, _⟩
        · rw [h5] at e; cases e
        · rw [h5] at e; cases e; have := lt h6; omega) r4.size
      refine ⟨rfl, _, ov', av', iv', _, hnd, h2.trans (r4.below hbl (fun b hb => ?_))⟩
      rcases hb with hb | ⟨q, _⟩
      · rw [hb]; exact h1.lN
      · exact q
  · subst hpv
    refine (revAdd_some B N R.length pm L (idB k) fo fc W (fun w' ca' => ca'.size = 69 ∧ ∃ ov' av' iv', Nd B w' N T mp fm (R ++ [k]) L ca' ov' av' iv' (.map (some pm)) ∧ Below B W w') (idB_size2 k hk) hR hL h50 (hI.mono ?_)).mono ?_
    · rintro e w' ⟨rfl, ca', ov', av', iv', h1, h2⟩
      obtain ⟨o1, c1, hs1⟩ := row_shape h1.ro
      rcases h1.by' with hb | ⟨pm', hb, hba, q1, q2, q3, q4⟩
      · cases hb
      · cases hb
        exact ⟨rfl, ca', h1.node, ⟨o1, c1, (R ++ [k]).length, by simp, by rw [h1.c50, hs1]⟩, h1.c54, hba, h1.below, q1, h1.sz, ov', av', iv', h1, h2⟩
    · rintro e W2 ⟨rfl, w', ca', ⟨hsz, ov', av', iv', h1, h2⟩, r1, r2, r4⟩
      rcases h1.by' with hb | ⟨pm', hb, hba, q1, q2, q3, q4⟩
      · cases hb
      · cases hb
        have hpm : ∃ es c, w'.heap[pm]? = some (.map es c) := let ⟨es, c, hh, _⟩ := hba; ⟨es, c, hh⟩
        obtain ⟨es2, c2, hpm⟩ := hpm
        have hnd := h1.turn (pm := pm) r1 hsz (fun _ _ => rfl) h1.c54 (fun b ob hb n1 n2 n3 => r4.obj hb (fun e => by
          rcases e with e | ⟨_, cur, e⟩
          · exact n2 e
          · rw [hb] at e; cases e; exact n3 _ rfl)) (fun cur t e => by rw [hpm] at e; cases e) r2 q1 q2 q3 q4 r4.size
        refine ⟨rfl, _, ov', av', iv', _, hnd, h2.trans (r4.below h1.below (fun b hb => ?_))⟩
        rcases hb with hb | ⟨q, _⟩
        · rw [hb]; exact q1
        · exact q
end Go.Proofs.Ybulkckim
