import Derived.Test.YbulkckimNd
namespace Go.Proofs.Ybulkckim
open Go.RowKit

theorem row_shape {W : World} {B : Nat} {e : TypeId} {v : Value} {n : Nat} {xs : List Value} (h : W.ownsRow B e 1 v n xs) : ∃ o c, v = .slice o n c := by
  rcases ownsRow_cases h with ⟨h1, h2, _⟩ | ⟨g, c, h1, _⟩
  · exact ⟨none, 0, by rw [h1, h2]⟩
  · exact ⟨_, _, h1⟩

theorem idAddNd_some {B : Nat} {W : World} {N T mp fm : Nat} {R : List Nat} {L : Nat} {ca : Array Value} {ov iv pv : Value} {atm : Nat} (h : Nd B W N T mp fm R L ca ov (.map (some atm)) iv pv) (k : Nat) (hk : k < 6) (hkR : k ∉ R) (hR : R.length ≤ 10) :
    Calls Yba.prog 45 #[.pointer (some ⟨N, 50, none⟩), .string (idB k)] W fun e W' => e = .returned (.bool true) ∧ ∃ ca' ov' iv', Nd B W' N T mp fm (R ++ [k]) L ca' ov' (.map (some atm)) iv' pv ∧ Below B W W' := by
  rcases h.at' with ⟨_, h1, _⟩ | ⟨atm', es, c, h1, hat, hB, hm1, hm2, hf⟩
  · cases h1
  cases h1
  obtain ⟨fo, fc, hov⟩ := row_shape h.ro
  obtain ⟨bo, bc, hiv⟩ := row_shape h.ri
  subst hov hiv
  refine (idAdd_some B N atm R.length ca fo bo fc bc _ _ es c (idB k) W hR h.below h.node h.sz h.c50 h.c51 h.c52 h.c53 hat (hf k hk hkR) h.ro h.ri).mono ?_
  rintro e W' ⟨rfl, v1, v2, r1, r2, r3, r4, r5⟩
  have tO : ∀ b, (Value.slice fo R.length fc).ownBlock = some b → (∃ cur, W.heap[b]? = some (.cells cur 36 (0, 0))) ∧ B ≤ b := fun b hb => ⟨row_tag h.ro hb, row_ge h.ro hb⟩
  have tI : ∀ b, (Value.slice bo R.length bc).ownBlock = some b → (∃ cur, W.heap[b]? = some (.cells cur 4 (0, 0))) ∧ B ≤ b := fun b hb => ⟨row_tag h.ri hb, row_ge h.ri hb⟩
  have notP : ∀ b ob, W.heap[b]? = some ob → b ≠ atm → (∀ cur, ob ≠ .cells cur 110 (0, 0)) → (∀ cur, ob ≠ .cells cur 36 (0, 0)) → (∀ cur, ob ≠ .cells cur 4 (0, 0)) → ¬ (b = N ∨ b = atm ∨ (Value.slice fo R.length fc).ownBlock = some b ∨ (Value.slice bo R.length bc).ownBlock = some b) := fun b ob hb hne n1 n2 n3 hp => by
    rcases hp with hp | hp | hp | hp
    · rw [hp, h.node] at hb; cases hb; exact n1 _ rfl
    · exact hne hp
    · obtain ⟨⟨cur, hc⟩, _⟩ := tO b hp; rw [hc] at hb; cases hb; exact n2 _ rfl
    · obtain ⟨⟨cur, hc⟩, _⟩ := tI b hp; rw [hc] at hb; cases hb; exact n3 _ rfl
  have hmp : ∃ es c, W.heap[mp]? = some (.map es c) := let ⟨es, c, hh, _⟩ := h.peers; ⟨es, c, hh⟩
  obtain ⟨es', c', hmp⟩ := hmp
  have hbel : Below B W W' := r5.below h.below (fun b hb => by
    rcases hb with hb | hb | hb | hb
    · rw [hb]; exact h.lN
    · rw [hb]; exact hB
    · exact (tO b hb).2
    · exact (tI b hb).2)
  have hs := h.sz
  have hget : ∀ i v, ca[i]? = some v → i ≠ 50 → i ≠ 52 → i ≠ 53 → (((ca.setIfInBounds 50 v1).setIfInBounds 52 v2).setIfInBounds 53 (.int .i64 ((R.length : Int) + 1)))[i]? = some v := fun i v hi n1 n2 n3 => by
    rw [Array.getElem?_setIfInBounds_ne (Ne.symm n3), Array.getElem?_setIfInBounds_ne (Ne.symm n2), Array.getElem?_setIfInBounds_ne (Ne.symm n1)]; exact hi
  refine ⟨rfl, _, v1, v2, ⟨r1, by simpa using hs, hget _ _ h.c0 (by omega) (by omega) (by omega), hget _ _ h.c1 (by omega) (by omega) (by omega), hget _ _ h.c8 (by omega) (by omega) (by omega), ?_, ?_, hget _ _ h.c51 (by omega) (by omega) (by omega), ?_, ?_, hget _ _ h.c54 (by omega) (by omega) (by omega), hget _ _ h.c58 (by omega) (by omega) (by omega), hget _ _ h.c66 (by omega) (by omega) (by omega),
    h.peers.fr r5 (notP mp _ hmp (Ne.symm hm1) (fun _ e => by cases e) (fun _ e => by cases e) (fun _ e => by cases e)) (fun b cur hb => notP b _ hb (fun e => by rw [e, hat] at hb; cases hb) (fun _ e => by cases e) (fun _ e => by cases e) (fun _ e => by cases e)),
    r5.obj h.failed (notP fm _ h.failed (Ne.symm hm2) (fun _ e => by cases e) (fun _ e => by cases e) (fun _ e => by cases e)), ?_, ?_, ?_, ?_, ?_, h.lN, h.lmp, h.lfm, h.ne, Nat.le_trans h.below hbel.size⟩, hbel⟩
  · obtain ⟨hh, h9⟩ := h.c9; exact ⟨hh, hget _ _ h9 (by omega) (by omega) (by omega)⟩
  · rw [Array.getElem?_setIfInBounds_ne (by omega), Array.getElem?_setIfInBounds_ne (by omega)]; simp [hs]
  · rw [Array.getElem?_setIfInBounds_ne (by omega)]; simp [hs]
  · simp [hs]
  · unfold IdRow; simpa using r2
  · have e1 : (R ++ [k]).length = R.length + 1 := by simp
    rw [e1, List.replicate_succ']; exact r3
  · refine .inr ⟨atm, _, _, rfl, r4, hB, hm1, hm2, fun k' hk' hk'R => ?_⟩
    simp only [List.mem_append, List.mem_singleton, not_or] at hk'R
    rw [Array.toList_push]
    exact findNow_push _ _ (idB_beq k' hk' k hk hk'R.2) _ _ _ _ (hf k' hk' hk'R.1)
  · rcases h.by' with hb | ⟨pm, hb, hba, q1, q2, q3, q4⟩
    · exact .inl hb
    · refine .inr ⟨pm, hb, ?_, q1, q2, q3, q4⟩
      have hpm : ∃ es c, W.heap[pm]? = some (.map es c) := let ⟨es, c, hh, _⟩ := hba; ⟨es, c, hh⟩
      obtain ⟨es2, c2, hpm⟩ := hpm
      exact hba.fr r5 (notP pm _ hpm (fun e => q4 (by rw [e])) (fun _ e => by cases e) (fun _ e => by cases e) (fun _ e => by cases e)) (fun b cur hb => notP b _ hb (fun e => by rw [e, hat] at hb; cases hb) (fun _ e => by cases e) (fun _ e => by cases e) (fun _ e => by cases e))
  · intro x hx
    rcases List.mem_append.1 hx with hx | hx
    · exact h.six x hx
    · simp at hx; omega

theorem idAddNd_nil {B : Nat} {W : World} {N T mp fm : Nat} {L : Nat} {ca : Array Value} {ov iv pv : Value} (h : Nd B W N T mp fm [] L ca ov (.map none) iv pv) (k : Nat) (hk : k < 6) :
    Calls Yba.prog 45 #[.pointer (some ⟨N, 50, none⟩), .string (idB k)] W fun e W' => e = .returned (.bool true) ∧ ∃ ca' ov' av' iv', Nd B W' N T mp fm [k] L ca' ov' av' iv' pv ∧ Below B W W' := by
  obtain ⟨hov, hiv⟩ : ov = .slice none 0 0 ∧ iv = .slice none 0 0 := by
    rcases h.at' with ⟨_, _, h3, h4⟩ | ⟨_, _, _, h1, _⟩
    · exact ⟨h3, h4⟩
    · cases h1
  subst hov hiv
  refine (idAdd_nil B N 0 ca (idB k) W rfl h.below h.node h.sz h.c50 h.c51 h.c52 h.c53).mono ?_
  rintro e W' ⟨rfl, v1, v2, atm, r1, r2, r3, ⟨v, bn, r4⟩, r6, r5⟩
  have notP : ∀ (b : Nat) (ob : Obj), W.heap[b]? = some ob → (∀ cur, ob ≠ .cells cur 110 (0, 0)) → ¬ (b = N) := fun b ob hb n1 hp => by
    rw [hp, h.node] at hb; cases hb; exact n1 _ rfl
  have lt : ∀ {b : Nat} {ob : Obj}, W.heap[b]? = some ob → b < W.heap.size := fun hb => (Array.getElem?_eq_some_iff.1 hb).1
  have hmp : ∃ es c, W.heap[mp]? = some (.map es c) := let ⟨es, c, hh, _⟩ := h.peers; ⟨es, c, hh⟩
  obtain ⟨es', c', hmp⟩ := hmp
  have lmp := lt hmp
  have lfm := lt h.failed
  have hbel : Below B W W' := r5.below h.below (fun b hb => by rw [hb]; exact h.lN)
  have hs := h.sz
  have hget : ∀ i v, ca[i]? = some v → i ≠ 50 → i ≠ 51 → i ≠ 52 → i ≠ 53 → ((((ca.setIfInBounds 51 (.map (some atm))).setIfInBounds 50 v1).setIfInBounds 52 v2).setIfInBounds 53 (.int .i64 (((0 : Nat) : Int) + 1)))[i]? = some v := fun i v hi n1 n0 n2 n3 => by
    rw [Array.getElem?_setIfInBounds_ne (Ne.symm n3), Array.getElem?_setIfInBounds_ne (Ne.symm n2), Array.getElem?_setIfInBounds_ne (Ne.symm n1), Array.getElem?_setIfInBounds_ne (Ne.symm n0)]; exact hi
  refine ⟨rfl, _, v1, .map (some atm), v2, ⟨r1, by simpa using hs, hget _ _ h.c0 (by omega) (by omega) (by omega) (by omega), hget _ _ h.c1 (by omega) (by omega) (by omega) (by omega), hget _ _ h.c8 (by omega) (by omega) (by omega) (by omega), ?_, ?_, ?_, ?_, ?_, hget _ _ h.c54 (by omega) (by omega) (by omega) (by omega), hget _ _ h.c58 (by omega) (by omega) (by omega) (by omega), hget _ _ h.c66 (by omega) (by omega) (by omega) (by omega),
    h.peers.fr r5 (notP mp _ hmp (fun _ e => by cases e)) (fun b cur hb => notP b _ hb (fun _ e => by cases e)),
    r5.obj h.failed (notP fm _ h.failed (fun _ e => by cases e)), ?_, ?_, ?_, ?_, ?_, h.lN, h.lmp, h.lfm, h.ne, Nat.le_trans h.below hbel.size⟩, hbel⟩
  · obtain ⟨hh, h9⟩ := h.c9; exact ⟨hh, hget _ _ h9 (by omega) (by omega) (by omega) (by omega)⟩
  · rw [Array.getElem?_setIfInBounds_ne (by omega), Array.getElem?_setIfInBounds_ne (by omega)]; simp [hs]
  · rw [Array.getElem?_setIfInBounds_ne (by omega), Array.getElem?_setIfInBounds_ne (by omega), Array.getElem?_setIfInBounds_ne (by omega)]; simp [hs]
  · rw [Array.getElem?_setIfInBounds_ne (by omega)]; simp [hs]
  · simp [hs]
  · exact r2
  · exact r3
  · have hba := h.below
    refine .inr ⟨atm, _, _, rfl, r4, by omega, by omega, by omega, fun k' hk' hk'R => ?_⟩
    have hne : k' ≠ k := by simpa using hk'R
    exact findNow_push _ _ (idB_beq k' hk' k hk hne) _ _ [] _ rfl
  · rcases h.by' with hb | ⟨pm, hb, hba, q1, q2, q3, q4⟩
    · exact .inl hb
    · have hpm : ∃ es c, W.heap[pm]? = some (.map es c) := let ⟨es, c, hh, _⟩ := hba; ⟨es, c, hh⟩
      obtain ⟨es2, c2, hpm⟩ := hpm
      have lpm := lt hpm
      refine .inr ⟨pm, hb, ?_, q1, q2, q3, fun e => by cases e; omega⟩
      exact hba.fr r5 (notP pm _ hpm (fun _ e => by cases e)) (fun b cur hb => notP b _ hb (fun _ e => by cases e))
  · intro x hx
    simp at hx; omega
end Go.Proofs.Ybulkckim
