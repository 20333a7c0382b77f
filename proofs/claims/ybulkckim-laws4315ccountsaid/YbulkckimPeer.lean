import Derived.Test.YbulkckimNode0
namespace Go.Proofs.Ybulkckim
open Go.RowKit
open Go.ChangeMaps (setBlock)

/-- A look into a map whose keys are all strings. -/
theorem findNow_str (s : ByteArray) : ∀ (es : List MapEntry) (i : Nat), (∀ e ∈ es, ∃ t, e.key = .string t) →
    Instr.findNow .string (.string s) es i = some none ∨ ∃ j, ∃ h : j < es.length, Instr.findNow .string (.string s) es i = some (some (i + j, es[j].val)) := by
  intro es
  induction es with
  | nil => intro i _; exact .inl rfl
  | cons e es ih =>
    intro i h
    obtain ⟨t, ht⟩ := h e (List.mem_cons_self ..)
    have hs : Instr.sameNow .string (.string s) e.key = some (s == t) := by rw [ht]; rfl
    by_cases he : (s == t) = true
    · right
      refine ⟨0, by simp, ?_⟩
      unfold Instr.findNow; rw [hs, he]; rfl
    · have he' : (s == t) = false := by simpa using he
      have hf : Instr.findNow .string (.string s) (e :: es) i = Instr.findNow .string (.string s) es (i + 1) := by
        conv => lhs; unfold Instr.findNow
        rw [hs, he']
      rw [hf]
      rcases ih (i + 1) (fun e' he' => h e' (List.mem_cons_of_mem _ he')) with h1 | ⟨j, hj, h1⟩
      · exact .inl h1
      · exact .inr ⟨j + 1, by simp; omega, by rw [h1]; simp; omega⟩

theorem findNow_push (s t : ByteArray) (hne : (s == t) = false) (v : Value) (b : Nat) : ∀ (es : List MapEntry) (i : Nat), Instr.findNow .string (.string s) es i = some none → Instr.findNow .string (.string s) (es ++ [{ key := .string t, val := v, born := b }]) i = some none := by
  intro es
  induction es with
  | nil =>
    intro i _
    have hs : Instr.sameNow .string (.string s) (.string t) = some (s == t) := rfl
    show Instr.findNow _ _ [_] i = _
    unfold Instr.findNow
    rw [hs, hne]
    rfl
  | cons e es ih =>
    intro i h
    have hc : ∀ (l : List MapEntry), Instr.findNow .string (.string s) (e :: l) i = match Instr.sameNow .string (.string s) e.key with | some true => some (some (i, e.val)) | some false => Instr.findNow .string (.string s) l (i + 1) | none => none := fun l => rfl
    rw [hc] at h
    rw [List.cons_append, hc]
    cases hq : Instr.sameNow .string (.string s) e.key with
    | none => rw [hq] at h; cases h
    | some b' =>
      rw [hq] at h
      cases b' with
      | true => cases h
      | false => exact ih (i + 1) h

/-- A node's knowledge of others: a map from IDs to peers' blocks. -/
def PeersOK (n₀ : Nat) (W : World) (mp : Nat) : Prop :=
  ∃ es clock, W.heap[mp]? = some (.map es clock) ∧ ∀ e ∈ es.toList, (∃ t, e.key = .string t) ∧ ∃ b cur, e.val = .pointer (some ⟨b, 0, none⟩) ∧ n₀ ≤ b ∧ W.heap[b]? = some (.cells cur 122 (0, 0)) ∧ cur.size = 6

/-- The blocks that a peer's record may turn. -/
def PeerP (n₀ : Nat) (W : World) (N mp : Nat) (b : Nat) : Prop := b = N ∨ b = mp ∨ (n₀ ≤ b ∧ ∃ cur, W.heap[b]? = some (.cells cur 122 (0, 0)))

theorem PeersOK.set {n₀ : Nat} {W : World} {mp : Nat} (h : PeersOK n₀ W mp) (b i : Nat) (v : Value) (hb : b ≠ mp) : PeersOK n₀ (W.setCell ⟨b, i, none⟩ v) mp := by
  obtain ⟨es, clock, hm, hes⟩ := h
  refine ⟨es, clock, (Below.heap_setCell _ _ _ _ (Ne.symm hb)).trans hm, fun e he => ⟨(hes e he).1, ?_⟩⟩
  obtain ⟨b', cur, h1, h2, h3, h4⟩ := (hes e he).2
  by_cases eb : b' = b
  · subst eb
    exact ⟨b', _, h1, h2, blk_setCell_row h3 i v, by simpa using h4⟩
  · exact ⟨b', cur, h1, h2, (Below.heap_setCell _ _ _ _ eb).trans h3, h4⟩

theorem Fr.setCell {p : Nat → Prop} {w W : World} (h : Fr p w W) (b i : Nat) (v : Value) (hb : b < w.heap.size → p b) : Fr p w (W.setCell ⟨b, i, none⟩ v) :=
  ⟨h.os, h.tape, h.output, by simp [World.setCell]; exact h.size, fun k hk hp => (Below.heap_setCell _ _ _ _ (fun e => hp (by rw [show k = b from e] at hk ⊢; exact hb hk))).trans (h.block k hk hp)⟩

/-- record's end: the count goes on, in the node and in the peer. -/
theorem recordEnd {n₀ N mp b : Nat} {ca cur : Array Value} {w W : World} (hN : W.heap[N]? = some (.cells ca 110 (0, 0))) (hb : W.heap[b]? = some (.cells cur 122 (0, 0))) (hc : cur.size = 6) (hn : n₀ ≤ b) (hp : PeersOK n₀ W mp) (hf : Fr (PeerP n₀ w N mp) w W)
    (hbw : b < w.heap.size → ∃ c, w.heap[b]? = some (.cells c 122 (0, 0))) (h' : Int) (v : Value) :
    ((W.setCell ⟨N, 9, none⟩ (.int .u64 h')).setCell ⟨b, 4, none⟩ v).heap[b]? = some (.cells (cur.setIfInBounds 4 v) 122 (0, 0)) ∧ (cur.setIfInBounds 4 v).size = 6 ∧
    ((W.setCell ⟨N, 9, none⟩ (.int .u64 h')).setCell ⟨b, 4, none⟩ v).heap[N]? = some (.cells (ca.setIfInBounds 9 (.int .u64 h')) 110 (0, 0)) ∧ PeersOK n₀ ((W.setCell ⟨N, 9, none⟩ (.int .u64 h')).setCell ⟨b, 4, none⟩ v) mp ∧
    Fr (PeerP n₀ w N mp) w ((W.setCell ⟨N, 9, none⟩ (.int .u64 h')).setCell ⟨b, 4, none⟩ v) := by
  have hbN : b ≠ N := fun e => by rw [e, hN] at hb; cases hb
  have hm : ∃ es c, W.heap[mp]? = some (.map es c) := let ⟨es, c, h, _⟩ := hp; ⟨es, c, h⟩
  obtain ⟨es, c, hm⟩ := hm
  have hNm : N ≠ mp := fun e => by rw [e, hm] at hN; cases hN
  have hbm : b ≠ mp := fun e => by rw [e, hm] at hb; cases hb
  refine ⟨blk_setCell_row ((Below.heap_setCell _ _ _ _ hbN).trans hb) 4 v, by simpa using hc, ?_, (hp.set N 9 _ hNm).set b 4 v hbm, ?_⟩
  · exact (Below.heap_setCell _ _ _ _ (Ne.symm hbN)).trans (blk_setCell_row hN 9 _)
  · refine (hf.setCell N 9 _ (fun _ => .inl rfl)).setCell b 4 v (fun hlt => .inr (.inr ⟨hn, hbw hlt⟩))

set_option maxRecDepth 100000 in
set_option maxHeartbeats 1600000 in
theorem recordGo (n₀ N mp : Nat) (ca : Array Value) (h : Int) (k : Nat) (w : World) (hN : w.heap[N]? = some (.cells ca 110 (0, 0))) (c8 : ca[8]? = some (.map (some mp))) (c9 : ca[9]? = some (.int .u64 h)) (hp : PeersOK n₀ w mp) (hn : n₀ ≤ w.heap.size) :
    Calls Yba.prog 38 #[.pointer (some ⟨N, 0, none⟩), .string (idB k)] w fun e w' => ∃ b cur h', e = .returned (.pointer (some ⟨b, 0, none⟩)) ∧ n₀ ≤ b ∧ w'.heap[b]? = some (.cells cur 122 (0, 0)) ∧ cur.size = 6 ∧
      w'.heap[N]? = some (.cells (ca.setIfInBounds 9 (.int .u64 h')) 110 (0, 0)) ∧ PeersOK n₀ w' mp ∧ Fr (PeerP n₀ w N mp) w w' := by
  obtain ⟨es, clock, hm, hes⟩ := hp
  have d8 : w.cell? ⟨N, 8, none⟩ = some (.map (some mp)) := by simp [World.cell?, hN, c8]
  have d9 : w.cell? ⟨N, 9, none⟩ = some (.int .u64 h) := by simp [World.cell?, hN, c9]
  have f9 : w.frozen? ⟨N, 9, none⟩ = false := by simp [World.frozen?, hN]
  have lN : N < w.heap.size := (Array.getElem?_eq_some_iff.1 hN).1
  have lmp : mp < w.heap.size := (Array.getElem?_eq_some_iff.1 hm).1
  have hNm : N ≠ mp := fun e => by rw [e, hm] at hN; cases hN
  rcases findNow_str (idB k) es.toList 0 (fun e he => (hes e he).1) with hf | ⟨j, hj, hf⟩
  · have hl := lookup_none (P := Yba.prog) w 89 36 120 mp es clock (idB k) (.pointer none) false Yba.underlying89 Yba.underlying36 hm (Yba.zeroValue120 w) hf
    obtain ⟨X, hX⟩ : ∃ X, idB k = X := ⟨_, rfl⟩
    have HF : Hid _ := hf
    rw [hX] at hl HF ⊢
    simp only [Bool.false_eq_true, if_false] at hl
    have HE : Hid _ := hes
    have H : Hid _ := And.intro hN hm
    clear hX hes hN hm hf
    have hu := update_new (P := Yba.prog) (w.alloc (.cells #[.int .i64 0, .bool false, .bool false, .bool false, .int .u64 0, .int .u64 0] 122)) 89 36 120 mp es clock X (.pointer (some ⟨w.heap.size, 0, none⟩)) Yba.underlying89 Yba.underlying36 (obj_alloc _ H.out.2) HF.out
    have hsm : mp < (w.alloc (.cells #[.int .i64 0, .bool false, .bool false, .bool false, .int .u64 0, .int .u64 0] 122)).heap.size := by simp; omega
    obtain ⟨W2, hW2⟩ : ∃ W2, setBlock (w.alloc (.cells #[.int .i64 0, .bool false, .bool false, .bool false, .int .u64 0, .int .u64 0] 122)) mp (.map (es.push { key := .string X, val := .pointer (some ⟨w.heap.size, 0, none⟩), born := clock }) (clock + 1)) = W2 := ⟨_, rfl⟩
    rw [hW2] at hu
    have hoth : ∀ r, r ≠ mp → W2.heap[r]? = (w.alloc (.cells #[.int .i64 0, .bool false, .bool false, .bool false, .int .u64 0, .int .u64 0] 122)).heap[r]? := fun r hr => by rw [← hW2]; exact (MapKept.heap_set (obj_alloc _ H.out.2)).2 r hr
    have hthe : W2.heap[mp]? = some (.map (es.push { key := .string X, val := .pointer (some ⟨w.heap.size, 0, none⟩), born := clock }) (clock + 1)) := by rw [← hW2]; exact (MapKept.heap_set (obj_alloc _ H.out.2)).1
    have hN2 : W2.heap[N]? = some (.cells ca 110 (0, 0)) := (hoth N hNm).trans (obj_alloc _ H.out.1)
    have hb2 : W2.heap[w.heap.size]? = some (.cells #[.int .i64 0, .bool false, .bool false, .bool false, .int .u64 0, .int .u64 0] 122 (0, 0)) := (hoth _ (by omega)).trans (heap_alloc_new _ _)
    have hsz2 : W2.heap.size = w.heap.size + 1 := by rw [← hW2]; show (Array.setIfInBounds _ _ _).size = _; simp
    have hp2 : PeersOK n₀ W2 mp := by
      refine ⟨_, _, hthe, fun e he => ?_⟩
      simp only [Array.toList_push, List.mem_append, List.mem_singleton] at he
      rcases he with he | he
      · obtain ⟨h1, b, cur, h2, h3, h4, h5⟩ := HE.out e he
        exact ⟨h1, b, cur, h2, h3, (hoth b (fun eq => by rw [eq, H.out.2] at h4; cases h4)).trans (obj_alloc _ h4), h5⟩
      · subst he
        exact ⟨⟨X, rfl⟩, _, _, rfl, hn, hb2, rfl⟩
    have hf2 : Fr (PeerP n₀ w N mp) w W2 := by
      refine ⟨by rw [← hW2]; rfl, by rw [← hW2]; rfl, by rw [← hW2]; rfl, by omega, fun b hb hpb => ?_⟩
      rw [hoth b (fun e => hpb (.inr (.inl e))), Below.heap_alloc _ _ _ hb]
    have e9 : W2.cell? ⟨N, 9, none⟩ = some (.int .u64 h) := by simp [World.cell?, hN2, c9]
    have g9 : W2.frozen? ⟨N, 9, none⟩ = false := by simp [World.frozen?, hN2]
    have e4 : W2.cell? ⟨w.heap.size, 4, none⟩ = some (.int .u64 0) := by simp [World.cell?, hb2]
    have g4 : W2.frozen? ⟨w.heap.size, 4, none⟩ = false := by simp [World.frozen?, hb2]
    have HR : Hid _ := fun h' v => recordEnd hN2 hb2 rfl hn hp2 hf2 (fun hlt => by omega) h' v
    have hNs : N ≠ w.heap.size := by omega
    have e8 : (w.alloc (.cells #[.int .i64 0, .bool false, .bool false, .bool false, .int .u64 0, .int .u64 0] 122)).cell? ⟨N, 8, none⟩ = some (.map (some mp)) := (World.cell?_of_block (w := w) (w' := w.alloc _) (a := ⟨N, 8, none⟩) (Below.heap_alloc w _ N lN)).trans d8
    clear hW2 hoth hthe hN2 hb2 hp2 hf2 hsm hsz2
    go_enter Yba.func38, Yba.ntmps38
    go_wp2_with fail
    go_ret
    obtain ⟨r1, r2, r3, r4, r5⟩ := HR.out _ _
    exact ⟨_, _, _, rfl, hn, r1, r2, r3, r4, r5⟩
  · have hmem := List.getElem_mem hj
    obtain ⟨_, b, cur, h2, h3, h4, h5⟩ := hes _ hmem
    rw [h2] at hf
    have hl := lookup_at (P := Yba.prog) w 89 36 120 mp es clock (idB k) _ _ false Yba.underlying89 Yba.underlying36 hm hf
    obtain ⟨X, hX⟩ : ∃ X, idB k = X := ⟨_, rfl⟩
    rw [hX] at hl ⊢
    simp only [Bool.false_eq_true, if_false] at hl
    have hbN : N ≠ b := fun e => by rw [← e, hN] at h4; cases h4
    have lb : b < w.heap.size := (Array.getElem?_eq_some_iff.1 h4).1
    obtain ⟨v4, e4⟩ : ∃ v, w.cell? ⟨b, 4, none⟩ = some v := ⟨cur[4]'(by omega), by simp [World.cell?, h4]⟩
    have g4 : w.frozen? ⟨b, 4, none⟩ = false := by simp [World.frozen?, h4]
    have HR : Hid _ := fun h' v => recordEnd (w := w) hN h4 h5 h3 ⟨es, clock, hm, hes⟩ (Fr.refl _ _) (fun _ => ⟨_, h4⟩) h' v
    clear hX hes hN hm hf h2 h4 h5 hmem
    go_enter Yba.func38, Yba.ntmps38
    go_wp2_with fail
    go_ret
    obtain ⟨r1, r2, r3, r4, r5⟩ := HR.out _ _
    exact ⟨_, _, _, rfl, h3, r1, r2, r3, r4, r5⟩

set_option maxRecDepth 100000 in
theorem setSNodeGo (n₀ N mp : Nat) (ca : Array Value) (h : Int) (k : Nat) (w : World) (hN : w.heap[N]? = some (.cells ca 110 (0, 0))) (c8 : ca[8]? = some (.map (some mp))) (c9 : ca[9]? = some (.int .u64 h)) (hp : PeersOK n₀ w mp) (hn : n₀ ≤ w.heap.size) :
    Calls Yba.prog 21 #[.pointer (some ⟨N, 0, none⟩), .string (idB k)] w fun e w' => (∃ v, e = .returned v) ∧ (∃ h', w'.heap[N]? = some (.cells (ca.setIfInBounds 9 (.int .u64 h')) 110 (0, 0))) ∧ PeersOK n₀ w' mp ∧ Fr (PeerP n₀ w N mp) w w' := by
  have HR : Hid _ := recordGo n₀ N mp ca h k w hN c8 c9 hp hn
  obtain ⟨X, hX⟩ : ∃ X, idB k = X := ⟨_, rfl⟩
  rw [hX] at HR ⊢
  clear hX hN c8 c9 hp
  go_enter Yba.func21, Yba.ntmps21
  go_wp2_with fail
  refine Calls.mono HR.out ?_
  rintro e w1 ⟨b, cur, h', rfl, h1, h2, h3, h4, h5, h6⟩
  obtain ⟨v1, e1⟩ : ∃ v, w1.cell? ⟨b, 1, none⟩ = some v := ⟨cur[1]'(by omega), by simp [World.cell?, h2]⟩
  have g1 : w1.frozen? ⟨b, 1, none⟩ = false := by simp [World.frozen?, h2]
  have hbN : N ≠ b := fun e => by rw [← e, h4] at h2; cases h2
  have hbm : b ≠ mp := fun e => by obtain ⟨es, c, hm, _⟩ := h5; rw [e, hm] at h2; cases h2
  have H : Hid _ := And.intro h2 (And.intro h4 (And.intro h5 h6))
  clear h2 h3 h4 h5 h6 HR
  go_wp2_with fail
  go_end0
  obtain ⟨h2, h4, h5, h6⟩ := H.out
  refine ⟨⟨_, rfl⟩, ⟨h', (Below.heap_setCell _ _ _ _ hbN).trans h4⟩, h5.set b 1 _ hbm, h6.setCell b 1 _ (fun hlt => ?_)⟩
  by_cases hp : PeerP n₀ w N mp b
  · exact hp
  · exact .inr (.inr ⟨h1, cur, (h6.block b hlt hp).symm.trans h2⟩)
end Go.Proofs.Ybulkckim
