import Derived.Test.YbulkckimRevNd
namespace Go.Proofs.Ybulkckim
open Go.RowKit

/-- A node abides new blocks. -/
theorem Nd.keep {B : Nat} {W W2 : World} {N T mp fm : Nat} {R : List Nat} {L : Nat} {ca : Array Value} {ov av iv pv : Value} (h : Nd B W N T mp fm R L ca ov av iv pv) (hf : Fr (fun _ => False) W W2) : Nd B W2 N T mp fm R L ca ov av iv pv := by
  have ok : ∀ {b : Nat} {ob : Obj}, W.heap[b]? = some ob → W2.heap[b]? = some ob := fun hb => hf.obj hb (fun e => e)
  have hrow : ∀ {e : TypeId} {v : Value} {n : Nat} {xs : List Value}, W.ownsRow B e 1 v n xs → W2.ownsRow B e 1 v n xs := fun ho => row_other ho fun g hg => by obtain ⟨cc, hc⟩ := row_tag ho hg; rw [hc]; exact ok hc
  refine ⟨ok h.node, h.sz, h.c0, h.c1, h.c8, h.c9, h.c50, h.c51, h.c52, h.c53, h.c54, h.c58, h.c66, h.peers.fr hf (fun e => e) (fun _ _ _ e => e), ok h.failed, hrow h.ro, hrow h.ri, ?_, ?_, h.six, h.lN, h.lmp, h.lfm, h.ne, Nat.le_trans h.below hf.size⟩
  · rcases h.at' with h1 | ⟨atm, es, c, h1, h2, h3⟩
    · exact .inl h1
    · exact .inr ⟨atm, es, c, h1, ok h2, h3⟩
  · rcases h.by' with h1 | ⟨pm, h1, h2, h3⟩
    · exact .inl h1
    · exact .inr ⟨pm, h1, h2.fr hf (fun e => e) (fun _ _ _ e => e), h3⟩

set_option maxRecDepth 100000 in
theorem addReverse0 {B : Nat} {W : World} {N T mp fm : Nat} {R : List Nat} {L : Nat} {ca : Array Value} {ov av iv pv : Value} (h : Nd B W N T mp fm R L ca ov av iv pv) (k : Nat) (hk : k < 6) (hkR : k ∉ R) (hR : R.length ≤ 10) (hL : L ≤ 40) :
    Calls Yba.prog 23 #[.pointer (some ⟨N, 0, none⟩), .string (idB k)] W fun e W' => (∃ v, e = .returned v) ∧ ∃ ca' ov' av' iv' pv', Nd B W' N T mp fm (R ++ [k]) (L + 2) ca' ov' av' iv' pv' ∧ Below B W W' := by
  have HR : Hid _ := revAddNd h k hk hkR hR hL
  have d58 : W.cell? ⟨N, 58, none⟩ = some (.map (some fm)) := by simp [World.cell?, h.node, h.c58]
  have hl := lookup_none (P := Yba.prog) W 91 36 4 fm #[] 0 (idB k) (.bool false) false Yba.underlying91 Yba.underlying36 h.failed (Yba.zeroValue4 W) rfl
  simp only [Bool.false_eq_true, if_false] at hl
  obtain ⟨X, hX⟩ : ∃ X, idB k = X := ⟨_, rfl⟩
  rw [hX] at HR hl ⊢
  clear hX h
  go_enter Yba.func23, Yba.ntmps23
  go_wp2_with fail
  refine Calls.mono HR.out ?_
  rintro e w1 ⟨rfl, ca', ov', av', iv', pv', h1, h2⟩
  have HA : Hid _ := answerKeptGo N X w1 (by simp [World.cell?, h1.node, h1.c66])
  have H1 : Hid _ := And.intro h1 h2
  clear h1 h2
  go_wp2_with fail
  refine Calls.mono HA.out ?_
  rintro e w2 ⟨⟨v, rfl⟩, hf⟩
  go_wp2_with fail
  go_end0
  obtain ⟨h1, h2⟩ := H1.out
  exact ⟨⟨_, rfl⟩, ca', ov', av', iv', pv', h1.keep hf, h2.trans (hf.below h1.below (fun _ e => e.elim))⟩

/-- A record of a peer leaves the node's reverse neighbours. -/
theorem Nd.peer {B : Nat} {W W2 : World} {N T mp fm : Nat} {R : List Nat} {L : Nat} {ca : Array Value} {ov av iv pv : Value} {h' : Int} (h : Nd B W N T mp fm R L ca ov av iv pv) (hN : W2.heap[N]? = some (.cells (ca.setIfInBounds 9 (.int .u64 h')) 110 (0, 0))) (hp : PeersOK B W2 mp) (hf : Fr (PeerP B W N mp) W W2) :
    Nd B W2 N T mp fm R L (ca.setIfInBounds 9 (.int .u64 h')) ov av iv pv ∧ Below B W W2 := by
  have hmp : ∃ es c, W.heap[mp]? = some (.map es c) := let ⟨es, c, hh, _⟩ := h.peers; ⟨es, c, hh⟩
  obtain ⟨es', c', hmp⟩ := hmp
  have np : ∀ (b : Nat) (ob : Obj), W.heap[b]? = some ob → b ≠ mp → (∀ cur, ob ≠ .cells cur 110 (0, 0)) → (∀ cur, ob ≠ .cells cur 122 (0, 0)) → ¬ PeerP B W N mp b := fun b ob hb hne n1 n2 e => by
    rcases e with e | e | ⟨_, cur, e⟩
    · rw [e, h.node] at hb; cases hb; exact n1 _ rfl
    · exact hne e
    · rw [hb] at e; cases e; exact n2 _ rfl
  have hrow : ∀ {e : TypeId} {v : Value} {n : Nat} {xs : List Value}, e ≠ 110 → e ≠ 122 → W.ownsRow B e 1 v n xs → W2.ownsRow B e 1 v n xs := fun {e v n xs} n1 n2 ho => row_other ho fun g hg => by
    obtain ⟨cc, hc⟩ := row_tag ho hg
    rw [hc]
    exact hf.obj hc (np g _ hc (fun e => by rw [e, hmp] at hc; cases hc) (fun _ e => by cases e; exact n1 rfl) (fun _ e => by cases e; exact n2 rfl))
  have hmap : ∀ (b : Nat) (es : Array MapEntry) (c : Nat), W.heap[b]? = some (.map es c) → b ≠ mp → W2.heap[b]? = some (.map es c) := fun b es c hb hne => hf.obj hb (np b _ hb hne (fun _ e => by cases e) (fun _ e => by cases e))
  have hca : ∀ i, i ≠ 9 → (ca.setIfInBounds 9 (.int .u64 h'))[i]? = ca[i]? := fun i hi => Array.getElem?_setIfInBounds_ne (Ne.symm hi)
  have hs := h.sz
  have hbel : Below B W W2 := hf.below h.below (fun b hb => by
    rcases hb with hb | hb | hb
    · rw [hb]; exact h.lN
    · rw [hb]; exact h.lmp
    · exact hb.1)
  refine ⟨⟨hN, by simpa using hs, (hca 0 (by omega)).trans h.c0, (hca 1 (by omega)).trans h.c1, (hca 8 (by omega)).trans h.c8, ⟨h', by simp [hs]⟩, (hca 50 (by omega)).trans h.c50, (hca 51 (by omega)).trans h.c51, (hca 52 (by omega)).trans h.c52, (hca 53 (by omega)).trans h.c53, (hca 54 (by omega)).trans h.c54, (hca 58 (by omega)).trans h.c58, (hca 66 (by omega)).trans h.c66, hp, hmap fm _ _ h.failed (Ne.symm h.ne), hrow (by decide) (by decide) h.ro, hrow (by decide) (by decide) h.ri, ?_, ?_, h.six, h.lN, h.lmp, h.lfm, h.ne, Nat.le_trans h.below hbel.size⟩, hbel⟩
  · rcases h.at' with h1 | ⟨atm, es, c, h1, h2, h3, h4, h5⟩
    · exact .inl h1
    · exact .inr ⟨atm, es, c, h1, hmap atm _ _ h2 h4, h3, h4, h5⟩
  · rcases h.by' with h1 | ⟨pm, h1, h2, h3, h4, h5⟩
    · exact .inl h1
    · have hpm : ∃ es c, W.heap[pm]? = some (.map es c) := let ⟨es, c, hh, _⟩ := h2; ⟨es, c, hh⟩
      obtain ⟨es2, c2, hpm⟩ := hpm
      exact .inr ⟨pm, h1, h2.fr hf (np pm _ hpm h4 (fun _ e => by cases e) (fun _ e => by cases e)) (fun b cur hb => np b _ hb (fun e => by rw [e, hmp] at hb; cases hb) (fun _ e => by cases e) (fun _ e => by cases e)), h3, h4, h5⟩

set_option maxRecDepth 100000 in
/-- AddReverse. -/
theorem addReverseGo {B : Nat} {W : World} {N T mp fm : Nat} {R : List Nat} {L : Nat} {ca : Array Value} {ov av iv pv : Value} (h : Nd B W N T mp fm R L ca ov av iv pv) (k : Nat) (hk : k < 6) (hkR : k ∉ R) (hR : R.length ≤ 10) (hL : L ≤ 40) :
    Calls Yba.prog 11 #[.pointer (some ⟨N, 0, none⟩), .string (idB k)] W fun e W' => (∃ v, e = .returned v) ∧ ∃ ca' ov' av' iv' pv', Nd B W' N T mp fm (R ++ [k]) (L + 2) ca' ov' av' iv' pv' ∧ Below B W W' := by
  have HR : Hid _ := addReverse0 h k hk hkR hR hL
  have HS : Hid _ := fun (W' : World) (ca' : Array Value) (ov' av' iv' pv' : Value) (h' : Nd B W' N T mp fm (R ++ [k]) (L + 2) ca' ov' av' iv' pv') => let ⟨hh, h9⟩ := h'.c9; setSNodeGo B N mp ca' hh k W' h'.node h'.c8 h9 h'.peers h'.below
  obtain ⟨X, hX⟩ : ∃ X, idB k = X := ⟨_, rfl⟩
  rw [hX] at HR ⊢
  simp only [hX] at HS
  clear hX h
  go_enter Yba.func11, Yba.ntmps11
  go_wp2_with fail
  refine Calls.mono HR.out ?_
  rintro e w1 ⟨⟨v, rfl⟩, ca', ov', av', iv', pv', h1, h2⟩
  have HS1 : Hid _ := HS.out w1 ca' ov' av' iv' pv' h1
  have H1 : Hid _ := And.intro h1 h2
  clear h1 h2
  go_wp2_with fail
  refine Calls.mono HS1.out ?_
  rintro e w2 ⟨⟨v2, rfl⟩, ⟨h', r1⟩, r2, r3⟩
  have H2 : Hid _ := And.intro r1 (And.intro r2 r3)
  clear r1 r2 r3
  go_wp2_with fail
  go_end0
  obtain ⟨h1, h2⟩ := H1.out
  obtain ⟨r1, r2, r3⟩ := H2.out
  obtain ⟨q1, q2⟩ := h1.peer r1 r2 r3
  exact ⟨⟨_, rfl⟩, _, ov', av', iv', pv', q1, h2.trans q2⟩
end Go.Proofs.Ybulkckim
