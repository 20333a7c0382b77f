import Derived.Test.YbulkckimSmall
import Derived.Deep.RegionHeld3
import Derived.Deep.RegionWith
import Derived.Deep.AppendLies
namespace Go.Proofs.Ybulkckim
open Go.RowKit

/-- A routing table: its three blocks, its eight entries' rows. -/
structure TabAt (n₀ : Nat) (W : World) (T E S : Nat) (V U : Nat → Value) (o : Nat) (L : Nat → List Nat) (M : Nat → Nat) : Prop where
  hT : W.heap[T]? = some (.cells #[.string (idB o), .int .i64 4, .int .i64 2, .int .i64 16, .slice (some ⟨E, 0, none⟩) 8 8, .slice (some ⟨S, 0, none⟩) 8 8] 75 (0, 0))
  hE : ∃ ce : Array Value, W.heap[E]? = some (.cells ce 62 (0, 0)) ∧ ce.size = 8 ∧ ∀ j, j < 8 → ce[j]? = some (V j)
  hS : ∃ ce : Array Value, W.heap[S]? = some (.cells ce 80 (0, 0)) ∧ ce.size = 8 ∧ ∀ j, j < 8 → ce[j]? = some (U j)
  rV : ∀ j, j < 8 → IdRow n₀ W (V j) (L j)
  rU : ∀ j, j < 8 → ∃ xs, W.ownsRow n₀ 48 1 (U j) (M j) xs
  dV : ∀ i j, i < 8 → j < 8 → i ≠ j → ∀ g, (V i).ownBlock = some g → (V j).ownBlock ≠ some g
  dU : ∀ i j, i < 8 → j < 8 → i ≠ j → ∀ g, (U i).ownBlock = some g → (U j).ownBlock ≠ some g
  nT : n₀ ≤ T
  nE : n₀ ≤ E
  nS : n₀ ≤ S
  six : ∀ j, j < 8 → ∀ x ∈ L j, x < 6

theorem TabAt.cells {n₀ : Nat} {W : World} {T E S : Nat} {V U : Nat → Value} {o : Nat} {L : Nat → List Nat} {M : Nat → Nat} (h : TabAt n₀ W T E S V U o L M) :
    W.cell? ⟨T, 0, none⟩ = some (.string (idB o)) ∧ W.cell? ⟨T, 1, none⟩ = some (.int .i64 4) ∧ W.cell? ⟨T, 2, none⟩ = some (.int .i64 2) ∧ W.cell? ⟨T, 3, none⟩ = some (.int .i64 16) ∧
    W.cell? ⟨T, 4, none⟩ = some (.slice (some ⟨E, 0, none⟩) 8 8) ∧ W.cell? ⟨T, 5, none⟩ = some (.slice (some ⟨S, 0, none⟩) 8 8) := by
  refine ⟨?_, ?_, ?_, ?_, ?_, ?_⟩ <;> simp [World.cell?, h.hT]

theorem TabAt.cellE {n₀ : Nat} {W : World} {T E S : Nat} {V U : Nat → Value} {o : Nat} {L : Nat → List Nat} {M : Nat → Nat} (h : TabAt n₀ W T E S V U o L M) (j : Nat) (hj : j < 8) :
    W.cell? ⟨E, j, none⟩ = some (V j) ∧ W.frozen? ⟨E, j, none⟩ = false := by
  obtain ⟨ce, h1, h2, h3⟩ := h.hE
  have := h3 j hj
  rw [Array.getElem?_eq_some_iff] at this
  obtain ⟨hlt, he⟩ := this
  constructor
  · simp [World.cell?, h1, he, hlt]
  · simp [World.frozen?, h1]

theorem TabAt.cellS {n₀ : Nat} {W : World} {T E S : Nat} {V U : Nat → Value} {o : Nat} {L : Nat → List Nat} {M : Nat → Nat} (h : TabAt n₀ W T E S V U o L M) (j : Nat) (hj : j < 8) :
    W.cell? ⟨S, j, none⟩ = some (U j) ∧ W.frozen? ⟨S, j, none⟩ = false := by
  obtain ⟨ce, h1, h2, h3⟩ := h.hS
  have := h3 j hj
  rw [Array.getElem?_eq_some_iff] at this
  obtain ⟨hlt, he⟩ := this
  constructor
  · simp [World.cell?, h1, he, hlt]
  · simp [World.frozen?, h1]

theorem TabAt.shape {n₀ : Nat} {W : World} {T E S : Nat} {V U : Nat → Value} {o : Nat} {L : Nat → List Nat} {M : Nat → Nat} (h : TabAt n₀ W T E S V U o L M) (j : Nat) (hj : j < 8) :
    ∃ ao cap, V j = .slice ao (L j).length cap := by
  rcases (h.rV j hj).cases with ⟨h1, h2⟩ | ⟨g, cap, h1, _⟩
  · exact ⟨none, 0, by rw [h1, h2]; rfl⟩
  · exact ⟨_, _, h1⟩

theorem ownsRow_keep {W W' : World} {n₀ : Nat} {e : TypeId} {v : Value} {n : Nat} {xs : List Value} (h : W.ownsRow n₀ e 1 v n xs) (hb : Below W.heap.size W W') : W'.ownsRow n₀ e 1 v n xs := by
  obtain ⟨hl, ⟨rfl, rfl⟩ | ⟨g, cap, cur, rfl, hg, hh, h1, h2, h3, h4⟩⟩ := h
  · exact ⟨hl, .inl ⟨rfl, rfl⟩⟩
  · exact ⟨hl, .inr ⟨g, cap, cur, rfl, hg, (hb.block g (Array.getElem?_eq_some_iff.1 hh).1).trans hh, h1, h2, h3, h4⟩⟩

theorem TabAt.keep {n₀ : Nat} {W W' : World} {T E S : Nat} {V U : Nat → Value} {o : Nat} {L : Nat → List Nat} {M : Nat → Nat} (h : TabAt n₀ W T E S V U o L M) (hb : Below W.heap.size W W') : TabAt n₀ W' T E S V U o L M := by
  obtain ⟨ce, e1, e2, e3⟩ := h.hE
  obtain ⟨cs, s1, s2, s3⟩ := h.hS
  exact ⟨(hb.block T (Array.getElem?_eq_some_iff.1 h.hT).1).trans h.hT, ⟨ce, (hb.block E (Array.getElem?_eq_some_iff.1 e1).1).trans e1, e2, e3⟩, ⟨cs, (hb.block S (Array.getElem?_eq_some_iff.1 s1).1).trans s1, s2, s3⟩,
    fun j hj => ownsRow_keep (h.rV j hj) hb, fun j hj => let ⟨xs, hx⟩ := h.rU j hj; ⟨xs, ownsRow_keep hx hb⟩, h.dV, h.dU, h.nT, h.nE, h.nS, h.six⟩

theorem below_drewN (w : World) (k : Nat) : Below w.heap.size w (w.drewN k) := ⟨rfl, rfl, rfl, Nat.le_refl _, fun _ _ => rfl⟩

set_option maxRecDepth 100000 in
set_option maxHeartbeats 800000 in
theorem fullGo {n₀ : Nat} {w : World} {T E S : Nat} {V U : Nat → Value} {o : Nat} {L : Nat → List Nat} {M : Nat → Nat} (h : TabAt n₀ w T E S V U o L M) (j : Nat) (hj : j < 8) (hl : (L j).length < 16) :
    Calls Yba.prog 16 #[.pointer (some ⟨T, 0, none⟩), .int .i64 0, .int .i64 (j : Int)] w fun e w' => e = .returned (.bool false) ∧ ∃ m, w' = w.drewN m := by
  obtain ⟨c0, c1, c2, c3, c4, c5⟩ := h.cells
  obtain ⟨ao, cap, hv⟩ := h.shape j hj
  have e0 := (h.cellE j hj).1
  rw [hv] at e0
  obtain ⟨n, hn⟩ : ∃ n, (L j).length = n := ⟨_, rfl⟩
  rw [hn] at e0 hl
  have hl' : (n : Int) < 16 := by omega
  have hj' : (j : Int) < 8 := by omega
  clear h hv c0 c2 c5
  go_enter Yba.func16, Yba.ntmps16
  go_wp2_with fail
  go_quiet (fail)
  go_wp2_with fail
  go_ret
  exact ⟨by simp; omega, nq, rfl⟩

/-- How many leading bytes two texts of two bytes share. -/
def cpl (x y : ByteArray) : Nat := if (x.data.getD 0 0).toNat = (y.data.getD 0 0).toNat then (if (x.data.getD 1 0).toNat = (y.data.getD 1 0).toNat then 2 else 1) else 0

theorem cpl_le (x y : ByteArray) : cpl x y ≤ 2 := by unfold cpl; split; split <;> omega; omega

set_option maxRecDepth 100000 in
set_option maxHeartbeats 800000 in
theorem prefixLen (i k : Nat) (hi : i < 6) (hk : k < 6) (w : World) :
    Calls Yba.prog 50 #[.string (idB i), .string (idB k)] w fun e w' => e = .returned (.int .i64 ((cpl (idB i) (idB k) : Nat) : Int)) ∧ ∃ m, w' = w.drewN m := by
  obtain ⟨a, b, hab⟩ : ∃ a b, idB i = ⟨#[a, b]⟩ := six (p := fun i => ∃ a b, idB i = ⟨#[a, b]⟩) ⟨_, _, rfl⟩ ⟨_, _, rfl⟩ ⟨_, _, rfl⟩ ⟨_, _, rfl⟩ ⟨_, _, rfl⟩ ⟨_, _, rfl⟩ i hi
  obtain ⟨c, d, hcd⟩ : ∃ a b, idB k = ⟨#[a, b]⟩ := six (p := fun i => ∃ a b, idB i = ⟨#[a, b]⟩) ⟨_, _, rfl⟩ ⟨_, _, rfl⟩ ⟨_, _, rfl⟩ ⟨_, _, rfl⟩ ⟨_, _, rfl⟩ ⟨_, _, rfl⟩ k hk
  rw [hab, hcd]
  clear hab hcd
  have hcp : cpl ⟨#[a, b]⟩ ⟨#[c, d]⟩ = if a.toNat = c.toNat then (if b.toNat = d.toNat then 2 else 1) else 0 := rfl
  obtain ⟨q, hq⟩ : ∃ q, cpl ⟨#[a, b]⟩ ⟨#[c, d]⟩ = q := ⟨_, rfl⟩
  rw [hq]
  rw [hq] at hcp
  have HC : Hid _ := hcp
  clear hcp hq
  go_enter Yba.func50, Yba.ntmps50
  go_wp2_with fail
  refine wp_loop_rounds 3 ?_
  rw [rounds_succ]
  go_wp2_with fail
  go_quiet (fail)
  go_wp2_with fail
  · rename_i h1
    go_ret
    refine ⟨?_, nq, rfl⟩
    have h1' : ((a.toNat : Int) != (c.toNat : Int)) = true := h1
    have h2 : ¬ a.toNat = c.toNat := by simp at h1'; omega
    rw [HC.out, if_neg h2]
    rfl
  · rename_i h1
    rw [rounds_succ]
    go_wp2_with fail
    go_quiet (fail)
    go_wp2_with fail
    · rename_i h3
      go_ret
      refine ⟨?_, _, World.drewN_drewN _ _ _⟩
      have h1' : ((a.toNat : Int) != (c.toNat : Int)) = false := h1
      have h2 : a.toNat = c.toNat := by simp at h1'; omega
      have h3' : ((b.toNat : Int) != (d.toNat : Int)) = true := h3
      have h4 : ¬ b.toNat = d.toNat := by simp at h3'; omega
      rw [HC.out, if_pos h2, if_neg h4]
      rfl
    · rename_i h3
      rw [rounds_succ]
      go_wp2_with fail
      go_ret
      refine ⟨?_, _, rfl⟩
      have h1' : ((a.toNat : Int) != (c.toNat : Int)) = false := h1
      have h2 : a.toNat = c.toNat := by simp at h1'; omega
      have h3' : ((b.toNat : Int) != (d.toNat : Int)) = false := h3
      have h4 : b.toNat = d.toNat := by simp at h3'; omega
      rw [HC.out, if_pos h2, if_pos h4]
      rfl

set_option maxRecDepth 100000 in
set_option maxHeartbeats 800000 in
theorem levels {n₀ : Nat} {w : World} {T E S : Nat} {V U : Nat → Value} {o : Nat} {L : Nat → List Nat} {M : Nat → Nat} (h : TabAt n₀ w T E S V U o L M) (k : Nat) (ho : o < 6) (hk : k < 6) :
    Calls Yba.prog 44 #[.pointer (some ⟨T, 0, none⟩), .string (idB k)] w fun e w' => e = .returned (.int .i64 ((min (cpl (idB o) (idB k) + 1) 2 : Nat) : Int)) ∧ ∃ m, w' = w.drewN m := by
  obtain ⟨c0, c1, c2, c3, c4, c5⟩ := h.cells
  have hc : ∀ w, Calls Yba.prog 50 #[.string (idB o), .string (idB k)] w fun e w' => e = .returned (.int .i64 ((cpl (idB o) (idB k) : Nat) : Int)) ∧ ∃ m, w' = w.drewN m := fun w => prefixLen o k ho hk w
  have hle := cpl_le (idB o) (idB k)
  obtain ⟨X, hX⟩ : ∃ X, idB k = X := ⟨_, rfl⟩
  obtain ⟨Y, hY⟩ : ∃ Y, idB o = Y := ⟨_, rfl⟩
  rw [hX] at hc hle ⊢
  rw [hY] at hc c0 hle ⊢
  obtain ⟨q, hq⟩ : ∃ q, cpl Y X = q := ⟨_, rfl⟩
  rw [hq] at hc hle ⊢
  clear h hX hY c1 c3 c4 c5 hq
  go_enter Yba.func44, Yba.ntmps44
  go_wp2_with fail
  go_quiet ((go_at_call 50; exact Calls.quiet_of (hc _)))
  go_wp2_with fail
  · go_ret
    refine ⟨?_, nq, rfl⟩
    show Ending.returned (Value.int IntKind.i64 2) = _
    congr 2
    omega
  · go_ret
    refine ⟨?_, nq, rfl⟩
    show Ending.returned (Value.int IntKind.i64 ((q : Int) + 1)) = _
    congr 2
    omega

theorem drew_keep (w : World) (m : Nat) : Below w.heap.size w (w.drewN m) := below_drewN w m

theorem TabAt.drewN {n₀ : Nat} {W : World} {T E S : Nat} {V U : Nat → Value} {o : Nat} {L : Nat → List Nat} {M : Nat → Nat} (h : TabAt n₀ W T E S V U o L M) (m : Nat) : TabAt n₀ (W.drewN m) T E S V U o L M := h.keep (below_drewN W m)

set_option maxRecDepth 100000 in
set_option maxHeartbeats 1600000 in
theorem stateGo {n₀ : Nat} {w : World} {T E S : Nat} {V U : Nat → Value} {o : Nat} {L : Nat → List Nat} {M : Nat → Nat} (h : TabAt n₀ w T E S V U o L M) (k : Nat) (ho : o < 6) (hk : k < 6) (hno : ∀ n, n < 8 → k ∉ L n) :
    Calls Yba.prog 31 #[.pointer (some ⟨T, 0, none⟩), .string (idB k)] w fun e w' => e = .returned (.tuple #[.int .u8 0, .bool false]) ∧ ∃ m, w' = w.drewN m := by
  have HL : Hid _ := levels h k ho hk
  have HI : Hid _ := fun n (hn : n < 8) W (hW : TabAt n₀ W T E S V U o L M) => indexRow (hW.rV n hn) (h.six n hn) k hk
  have HD0 : Hid (∀ w, Calls Yba.prog 9 #[.string (idB k), .int .i64 0] w fun e w' => e = .returned (.int .i64 ((k / 3 : Nat) : Int)) ∧ w' = w) := fun w => digitGo k 0 w hk (by omega)
  have HD1 : Hid (∀ w, Calls Yba.prog 9 #[.string (idB k), .int .i64 1] w fun e w' => e = .returned (.int .i64 ((k % 3 : Nat) : Int)) ∧ w' = w) := fun w => digitGo k 1 w hk (by omega)
  have hq : min (cpl (idB o) (idB k) + 1) 2 = 1 ∨ min (cpl (idB o) (idB k) + 1) 2 = 2 := by omega
  obtain ⟨q, hq'⟩ : ∃ q, min (cpl (idB o) (idB k) + 1) 2 = q := ⟨_, rfl⟩
  rw [hq'] at hq
  rw [hq'] at HL
  clear hq'
  obtain ⟨X, hX⟩ : ∃ X, idB k = X := ⟨_, rfl⟩
  rw [hX] at HL HD0 HD1 ⊢
  simp only [hX] at HI
  clear hX
  have n0 := hno (k / 3) (by omega)
  have n1 := hno (4 + k % 3) (by omega)
  obtain ⟨x0, hx0⟩ : ∃ x0, k / 3 = x0 := ⟨_, rfl⟩
  obtain ⟨x1, hx1⟩ : ∃ x1, k % 3 = x1 := ⟨_, rfl⟩
  have hx0' : (x0 : Int) < 8 := by omega
  have hx1' : (x1 : Int) < 4 := by omega
  rw [hx0] at HD0 n0
  rw [hx1] at HD1 n1
  have HT : Hid _ := h
  have HO : Hid _ := hno
  clear hno h hx0 hx1
  go_enter Yba.func31, Yba.ntmps31
  go_wp2_with fail
  refine Calls.mono HL.out ?_
  rintro e w1 ⟨rfl, m1, hw1⟩
  have h1 : TabAt n₀ w1 T E S V U o L M := by rw [hw1]; exact HT.out.drewN m1
  have HW : Hid _ := hw1
  obtain ⟨c0, c1, c2, c3, c4, c5⟩ := h1.cells
  have e0 := (h1.cellE x0 (by omega)).1
  have e1 := (h1.cellE (4 + x1) (by omega)).1
  obtain ⟨ao, ca, hv0⟩ := h1.shape x0 (by omega)
  obtain ⟨bo, cb, hv1⟩ := h1.shape (4 + x1) (by omega)
  have H0 : Hid (∀ m, Calls Yba.prog 30 #[.slice ao (L x0).length ca, .string X] (w1.drewN m) fun e w' => (∃ r : Int, e = .returned (.int .i64 r) ∧ (0 ≤ r ↔ k ∈ L x0)) ∧ w' = w1.drewN m) := fun m => by
    rw [← hv0]; exact HI.out x0 (by omega) _ (h1.drewN m)
  have H1 : Hid (∀ m, Calls Yba.prog 30 #[.slice bo (L (4 + x1)).length cb, .string X] (w1.drewN m) fun e w' => (∃ r : Int, e = .returned (.int .i64 r) ∧ (0 ≤ r ↔ k ∈ L (4 + x1))) ∧ w' = w1.drewN m) := fun m => by
    rw [← hv1]; exact HI.out (4 + x1) (by omega) _ (h1.drewN m)
  rw [hv0] at e0
  rw [hv1] at e1
  obtain ⟨l0, hl0⟩ : ∃ l0, (L x0).length = l0 := ⟨_, rfl⟩
  obtain ⟨l1, hl1⟩ : ∃ l1, (L (4 + x1)).length = l1 := ⟨_, rfl⟩
  rw [hl0] at e0 H0
  rw [hl1] at e1 H1
  clear h1 hv0 hv1 hw1 hl0 hl1 HI HL
  rcases hq with rfl | rfl
  · go_wp2_with fail
    refine wp_loop_rounds 2 ?_
    rw [rounds_succ]
    go_wp2_with fail
    go_quiet ((go_at_call 9; exact Calls.quiet_of_same (HD0.out _)))
    go_wp2_with fail
    refine Calls.mono (H0.out _) ?_
    rintro e w2 ⟨⟨r, rfl, hr⟩, rfl⟩
    have hr' : ¬ 0 ≤ r := fun h => n0 (hr.1 h)
    clear hr
    go_wp2_with fail
    rw [rounds_succ]
    go_wp2_with fail
    refine bodyPost_ret (results_tmp2 rfl _ _ _) rfl ?_
    exact ⟨rfl, _, by rw [HW.out, World.drewN_drewN]⟩
  · go_wp2_with fail
    refine wp_loop_rounds 3 ?_
    rw [rounds_succ]
    go_wp2_with fail
    go_quiet ((go_at_call 9; exact Calls.quiet_of_same (HD0.out _)))
    go_wp2_with fail
    refine Calls.mono (H0.out _) ?_
    rintro e w2 ⟨⟨r, rfl, hr⟩, rfl⟩
    have hr' : ¬ 0 ≤ r := fun h => n0 (hr.1 h)
    clear hr
    go_wp2_with fail
    rw [rounds_succ]
    go_wp2_with fail
    obtain ⟨w2, hw2⟩ : ∃ x, w1.drewN nq = x := ⟨_, rfl⟩
    have d1 : w2.cell? ⟨T, 1, none⟩ = some (.int .i64 4) := by rw [← hw2]; exact c1
    have d4 : w2.cell? ⟨T, 4, none⟩ = some (.slice (some ⟨E, 0, none⟩) 8 8) := by rw [← hw2]; exact c4
    have f1 : w2.cell? ⟨E, 4 + x1, none⟩ = some (.slice bo l1 cb) := by rw [← hw2]; exact e1
    have G1 : Hid (∀ m, Calls Yba.prog 30 #[.slice bo l1 cb, .string X] (w2.drewN m) fun e w' => (∃ r : Int, e = .returned (.int .i64 r) ∧ (0 ≤ r ↔ k ∈ L (4 + x1))) ∧ w' = w2.drewN m) := fun m => by
      rw [← hw2, World.drewN_drewN]; exact H1.out _
    rw [hw2]
    have HV : Hid _ := hw2
    clear hw2 c0 c1 c2 c3 c4 c5 e0 e1 H0 H1 HD0
    go_quiet ((go_at_call 9; exact Calls.quiet_of_same (HD1.out _)))
    go_wp2_with fail
    refine Calls.mono (G1.out _) ?_
    rintro e w2 ⟨⟨r', rfl, hr⟩, rfl⟩
    have hr'' : ¬ 0 ≤ r' := fun h => n1 (hr.1 h)
    clear hr
    go_wp2_with fail
    rw [rounds_succ]
    go_wp2_with fail
    refine bodyPost_ret (results_tmp2 rfl _ _ _) rfl ?_
    exact ⟨rfl, _, by rw [← HV.out, HW.out, World.drewN_drewN, World.drewN_drewN]⟩

set_option maxRecDepth 100000 in
theorem harmonizeGo {n₀ : Nat} {w : World} {T E S : Nat} {V U : Nat → Value} {o : Nat} {L : Nat → List Nat} {M : Nat → Nat} (h : TabAt n₀ w T E S V U o L M) (k : Nat) (ho : o < 6) (hk : k < 6) (hno : ∀ n, n < 8 → k ∉ L n) :
    Calls Yba.prog 18 #[.pointer (some ⟨T, 0, none⟩), .string (idB k), .int .u8 1] w fun e w' => e = .returned (.int .u8 1) ∧ ∃ m, w' = w.drewN m := by
  have hc := stateGo h k ho hk hno
  obtain ⟨X, hX⟩ : ∃ X, idB k = X := ⟨_, rfl⟩
  rw [hX] at hc ⊢
  clear hX h hno
  go_enter Yba.func18, Yba.ntmps18
  go_wp2_with fail
  refine hc.mono ?_
  rintro e w2 ⟨rfl, m, rfl⟩
  clear hc
  go_wp2_with fail
  go_ret
  exact ⟨rfl, _, rfl⟩
end Go.Proofs.Ybulkckim
