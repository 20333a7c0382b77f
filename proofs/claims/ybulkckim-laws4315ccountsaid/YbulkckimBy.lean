import Derived.Test.YbulkckimKept
namespace Go.Proofs.Ybulkckim
open Go.RowKit
open Go.ChangeMaps (setBlock)

/-- A map from texts to slices of numbers, each slice in a block of its own. -/
def ByAt (B : Nat) (W : World) (pm L : Nat) : Prop :=
  ∃ es c, W.heap[pm]? = some (.map es c) ∧ (∀ e ∈ es.toList, ∃ t, e.key = .string t) ∧ (∀ i (h : i < es.size), ∃ m xs, m ≤ L ∧ W.ownsRow B 3 1 es[i].val m xs) ∧
    ∀ i j (hi : i < es.size) (hj : j < es.size), i ≠ j → ∀ g, es[i].val.ownBlock = some g → es[j].val.ownBlock ≠ some g

/-- 'm[s] = v', m a map keyed by strings that holds an entry at s. -/
theorem update_at {P : Program} (w : World) (t kt et : TypeId) (r : Nat) (es : Array MapEntry) (clock : Nat) (s : ByteArray) (i : Nat) (v val : Value)
    (hm : P.underlying t = some (.map kt et)) (hk : P.underlying kt = some .string) (hb : w.heap[r]? = some (.map es clock)) (hf : Instr.findNow .string (.string s) es.toList 0 = some (some (i, v))) (hi : (es[i]?).map (·.key) = some (.string s)) :
    (Instr.mapUpdate t (.map (some r)) (.string s) val).run P w = .ok () (setBlock w r (.map (es.modify i fun e => { e with key := .string s, val := val }) clock)) := by
  have hc : (Instr.checkKey false 10000 kt (.string s)).run P w = .ok () w := MapKept.run_checkKey (k := .string s) hk (by simp [MapKept.IsKey]) false 9999
  have hst : (Instr.keyThatStays (.string s) (.string s)).run P w = .ok (.string s) w := MapKept.run_keyThatStays (d := .string) (by simp [MapKept.IsKey])
  simp [Instr.mapUpdate, run_underlying hm, MapKept.run_getObj_map hb, hc, MapKept.run_findKey hk hf, hi, hst, MapKept.run_setObj_map _ hb, Result.andThen, setBlock]

theorem findNow_key (s : ByteArray) : ∀ (es : List MapEntry) (i : Nat), (∀ e ∈ es, ∃ t, e.key = .string t) →
    Instr.findNow .string (.string s) es i = some none ∨ ∃ j, ∃ h : j < es.length, Instr.findNow .string (.string s) es i = some (some (i + j, es[j].val)) ∧ es[j].key = .string s := by
  intro es
  induction es with
  | nil => intro i _; exact .inl rfl
  | cons e es ih =>
    intro i h
    obtain ⟨t, ht⟩ := h e (List.mem_cons_self ..)
    have hs : Instr.sameNow .string (.string s) e.key = some (s == t) := by rw [ht]; rfl
    by_cases he : (s == t) = true
    · right
      refine ⟨0, by simp, ?_, ?_⟩
      · unfold Instr.findNow; rw [hs, he]; rfl
      · show e.key = _
        rw [ht, (MapKept.bytes_beq s t).1 he]
    · have he' : (s == t) = false := by simpa using he
      have hf : Instr.findNow .string (.string s) (e :: es) i = Instr.findNow .string (.string s) es (i + 1) := by
        conv => lhs; unfold Instr.findNow
        rw [hs, he']
      rw [hf]
      rcases ih (i + 1) (fun e' he' => h e' (List.mem_cons_of_mem _ he')) with h1 | ⟨j, hj, h1, h2⟩
      · exact .inl h1
      · exact .inr ⟨j + 1, by simp; omega, by rw [h1]; simp; omega, by simpa using h2⟩

/-- 'm[s] = append(m[s], x)': what the look-up gives, and what the update leaves. -/
theorem by_put {B : Nat} {W : World} {pm L : Nat} (h : ByAt B W pm L) (s : ByteArray) :
    ∃ v m xs, m ≤ L ∧ W.ownsRow B 3 1 v m xs ∧ (∀ W' : World, W'.heap[pm]? = W.heap[pm]? → (Instr.lookup 97 (.map (some pm)) (.string s) false).run Yba.prog W' = .ok v W') ∧
      ∀ (W2 : World) (v' : Value) (xs' : List Value), (∀ (b : Nat) (ob : Obj), W.heap[b]? = some ob → v.ownBlock ≠ some b → W2.heap[b]? = some ob) → W2.ownsRow B 3 1 v' (m + 1) xs' → (∀ g, v'.ownBlock = some g → v.ownBlock = some g ∨ W.heap[g]? = none) →
        ∃ o, (Instr.mapUpdate 97 (.map (some pm)) (.string s) v').run Yba.prog W2 = .ok () (setBlock W2 pm o) ∧ ByAt B (setBlock W2 pm o) pm (L + 1) := by
  obtain ⟨es, c, hm, hk, hr, hd⟩ := h
  have tag : ∀ i (hi : i < es.size) g, es[i].val.ownBlock = some g → ∃ cur, W.heap[g]? = some (.cells cur 3 (0, 0)) := fun i hi g hg => let ⟨m, xs, _, ho⟩ := hr i hi; row_tag ho hg
  rcases findNow_key s es.toList 0 hk with hf | ⟨j, hj, hf, hkey⟩
  · refine ⟨.slice none 0 0, 0, [], Nat.zero_le _, World.ownsRow_nil _ _ _ _, fun W' hW' => ?_, fun W2 v' xs' h2 ho' hg' => ?_⟩
    · have := lookup_none (P := Yba.prog) W' 97 9 64 pm es c s (.slice none 0 0) false Yba.underlying97 Yba.underlying9 (hW'.trans hm) (Yba.zeroValue64 W') hf
      simpa using this
    · have hm2 : W2.heap[pm]? = some (.map es c) := h2 pm _ hm (by simp [Value.ownBlock])
      refine ⟨_, update_new (P := Yba.prog) W2 97 9 64 pm es c s v' Yba.underlying97 Yba.underlying9 hm2 hf, ?_⟩
      have hoth := (MapKept.heap_set (o' := .map (es.push { key := .string s, val := v', born := c }) (c + 1)) hm2).2
      have hthe := (MapKept.heap_set (o' := .map (es.push { key := .string s, val := v', born := c }) (c + 1)) hm2).1
      have keep : ∀ {n : Nat} {v : Value} {xs : List Value}, W2.ownsRow B 3 1 v n xs → (setBlock W2 pm (.map (es.push { key := .string s, val := v', born := c }) (c + 1))).ownsRow B 3 1 v n xs := fun ho => row_other ho fun g hg => hoth g (fun e => by obtain ⟨cc, hc⟩ := row_tag ho hg; rw [e, hm2] at hc; cases hc)
      refine ⟨_, _, hthe, fun e he => ?_, fun i hi => ?_, fun i j hi hj hij g hgi => ?_⟩
      · simp only [Array.toList_push, List.mem_append, List.mem_singleton] at he
        rcases he with he | he
        · exact hk e he
        · exact ⟨s, by rw [he]⟩
      · by_cases e : i < es.size
        · obtain ⟨m, xs, hm', ho⟩ := hr i e
          refine ⟨m, xs, by omega, ?_⟩
          rw [Array.getElem_push_lt e]
          exact keep (row_other ho fun g hg => by obtain ⟨cc, hc⟩ := tag i e g hg; rw [hc]; exact h2 g _ hc (by simp [Value.ownBlock]))
        · have : i = es.size := by simp at hi; omega
          subst this
          refine ⟨1, xs', by omega, ?_⟩
          simp only [Array.getElem_push_eq]
          exact keep ho'
      · by_cases ei : i < es.size <;> by_cases ej : j < es.size
        · rw [Array.getElem_push_lt ei] at hgi
          rw [Array.getElem_push_lt ej]
          exact hd i j ei ej hij g hgi
        · have : j = es.size := by simp at hj; omega
          subst this
          rw [Array.getElem_push_lt ei] at hgi
          simp only [Array.getElem_push_eq]
          intro h'
          rcases hg' g h' with h'' | h''
          · simp [Value.ownBlock] at h''
          · obtain ⟨cc, hc⟩ := tag i ei g hgi; rw [hc] at h''; cases h''
        · have : i = es.size := by simp at hi; omega
          subst this
          simp only [Array.getElem_push_eq] at hgi
          rw [Array.getElem_push_lt ej]
          intro h'
          rcases hg' g hgi with h'' | h''
          · simp [Value.ownBlock] at h''
          · obtain ⟨cc, hc⟩ := tag j ej g h'; rw [hc] at h''; cases h''
        · simp at hi hj; omega
  · have hj' : j < es.size := by simpa using hj
    have hje : es.toList[j] = es[j] := by simp
    rw [hje] at hf hkey
    rw [Nat.zero_add] at hf
    obtain ⟨m, xs, hmL, ho⟩ := hr j hj'
    refine ⟨es[j].val, m, xs, hmL, ho, fun W' hW' => ?_, fun W2 v' xs' h2 ho' hg' => ?_⟩
    · have := lookup_at (P := Yba.prog) W' 97 9 64 pm es c s j es[j].val false Yba.underlying97 Yba.underlying9 (hW'.trans hm) hf
      simpa using this
    · have hpm : es[j].val.ownBlock ≠ some pm := fun e => by obtain ⟨cc, hc⟩ := tag j hj' pm e; rw [hm] at hc; cases hc
      have hm2 : W2.heap[pm]? = some (.map es c) := h2 pm _ hm hpm
      refine ⟨_, update_at (P := Yba.prog) W2 97 9 64 pm es c s j es[j].val v' Yba.underlying97 Yba.underlying9 hm2 hf (by simp [hj', hkey]), ?_⟩
      have hoth := (MapKept.heap_set (o' := .map (es.modify j fun e => { e with key := .string s, val := v' }) c) hm2).2
      have hthe := (MapKept.heap_set (o' := .map (es.modify j fun e => { e with key := .string s, val := v' }) c) hm2).1
      have keep : ∀ {n : Nat} {v : Value} {xs : List Value}, W2.ownsRow B 3 1 v n xs → (setBlock W2 pm (.map (es.modify j fun e => { e with key := .string s, val := v' }) c)).ownsRow B 3 1 v n xs := fun ho => row_other ho fun g hg => hoth g (fun e => by obtain ⟨cc, hc⟩ := row_tag ho hg; rw [e, hm2] at hc; cases hc)
      have hval : ∀ i (hi : i < es.size), (es.modify j fun e => { e with key := .string s, val := v' })[i]'(by simpa using hi) = if j = i then { es[i] with key := .string s, val := v' } else es[i] := fun i hi => by
        rw [Array.getElem_modify]
      refine ⟨_, _, hthe, fun e he => ?_, fun i hi => ?_, fun i i' hi hi' hii g hgi => ?_⟩
      · obtain ⟨i, hi, rfl⟩ := List.getElem_of_mem he
        have hi' : i < es.size := by simpa using hi
        simp only [Array.getElem_toList, hval i hi']
        split
        · exact ⟨s, rfl⟩
        · exact hk _ (by simp)
      · have hi' : i < es.size := by simpa using hi
        rw [hval i hi']
        by_cases e : j = i
        · subst e
          refine ⟨m + 1, xs', by omega, ?_⟩
          simp only [if_true]
          exact keep ho'
        · rw [if_neg e]
          obtain ⟨m', xs'', hm', ho''⟩ := hr i hi'
          refine ⟨m', xs'', by omega, keep (row_other ho'' fun g hg => ?_)⟩
          obtain ⟨cc, hc⟩ := tag i hi' g hg
          rw [hc]
          exact h2 g _ hc (fun e' => hd i j hi' hj' (fun e'' => e e''.symm) g hg e')
      · have hi1 : i < es.size := by simpa using hi
        have hi2 : i' < es.size := by simpa using hi'
        rw [hval i hi1] at hgi
        rw [hval i' hi2]
        by_cases e1 : j = i
        · subst e1
          rw [if_pos rfl] at hgi
          rw [if_neg hii]
          intro h'
          rcases hg' g hgi with h'' | h''
          · exact hd i' j hi2 hj' (fun e => hii e.symm) g h' h''
          · obtain ⟨cc, hc⟩ := tag i' hi2 g h'; rw [hc] at h''; cases h''
        · rw [if_neg e1] at hgi
          by_cases e2 : j = i'
          · subst e2
            rw [if_pos rfl]
            intro h'
            rcases hg' g h' with h'' | h''
            · exact hd i j hi1 hj' hii g hgi h''
            · obtain ⟨cc, hc⟩ := tag i hi1 g hgi; rw [hc] at h''; cases h''
          · rw [if_neg e2]
            exact hd i i' hi1 hi2 hii g hgi
end Go.Proofs.Ybulkckim
