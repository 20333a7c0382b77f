import Derived.Test.YbulkckimTail
namespace Go.Proofs.Ybulkckim
open Go.RowKit

theorem foldS (a : Nat → Bool) : ∀ (l S : List Nat), l.Nodup → (∀ y ∈ l, y ∉ S) → l.foldl (stepS a) S = S ++ l.filter a := by
  intro l
  induction l with
  | nil => intro S _ _; simp
  | cons y l ih =>
    intro S hn hd
    obtain ⟨h1, h2⟩ := List.nodup_cons.1 hn
    have hy : y ∉ S := hd y (List.mem_cons_self ..)
    rw [List.foldl_cons]
    cases ha : a y with
    | true =>
      have e : stepS a S y = S ++ [y] := by simp [stepS, ha, hy]
      rw [e, ih _ h2 (fun z hz hm => ?_), List.filter_cons_of_pos ha, List.append_assoc]
      · rfl
      · rcases List.mem_append.1 hm with h | h
        · exact hd z (List.mem_cons_of_mem _ hz) h
        · rw [List.mem_singleton] at h; subst h; exact h1 hz
    | false =>
      have e : stepS a S y = S := by simp [stepS, ha]
      rw [e, ih _ h2 (fun z hz => hd z (List.mem_cons_of_mem _ hz)), List.filter_cons_of_neg (by simp [ha])]

theorem sel_nodup (f : Nat → Bool) (n : Nat) : (sel f n).Nodup := List.Nodup.sublist List.filter_sublist List.nodup_range

theorem srch_eq (ms : Nat → Int) (al : Int) (x : Nat) : (sel (pick ms x) 6).foldl (stepS (bit al)) [x] = srch ms al x := by
  rw [foldS _ _ _ (sel_nodup _ _) (fun y hy hm => ?_)]
  · show x :: (sel (pick ms x) 6).filter (bit al) = _
    unfold srch sel
    rw [List.filter_filter]
    congr 1
    refine List.filter_congr (fun y _ => ?_)
    simp [searchable, Bool.and_comm]
  · rw [List.mem_singleton] at hm
    subst hm
    have := ((mem_sel _ _ _).1 hy).2
    simp [pick] at this

theorem foldF_mem (g : Nat → Bool) : ∀ (l F : List Nat), F.Nodup → (l.foldl (stepF g) F).Nodup ∧ ∀ y, y ∈ l.foldl (stepF g) F ↔ y ∈ F ∨ (y ∈ l ∧ g y = true) := by
  intro l
  induction l with
  | nil => intro F hF; exact ⟨hF, fun y => by simp⟩
  | cons z l ih =>
    intro F hF
    rw [List.foldl_cons]
    by_cases h : (g z && !decide (z ∈ F)) = true
    · have e : stepF g F z = F ++ [z] := by simp only [stepF, h, if_true]
      simp only [Bool.and_eq_true, Bool.not_eq_true', decide_eq_false_iff_not] at h
      have hn : (F ++ [z]).Nodup := by
        rw [List.nodup_append]
        exact ⟨hF, by simp, fun a ha b hb eab => by rw [List.mem_singleton] at hb; rw [eab, hb] at ha; exact h.2 ha⟩
      obtain ⟨h1, h2⟩ := ih _ hn
      rw [e]
      refine ⟨h1, fun y => ?_⟩
      rw [h2, List.mem_append, List.mem_singleton, List.mem_cons]
      constructor
      · rintro ((h3 | rfl) | h3)
        · exact .inl h3
        · exact .inr ⟨.inl rfl, h.1⟩
        · exact .inr ⟨.inr h3.1, h3.2⟩
      · rintro (h3 | ⟨rfl | h3, h4⟩)
        · exact .inl (.inl h3)
        · exact .inl (.inr rfl)
        · exact .inr ⟨h3, h4⟩
    · have e : stepF g F z = F := by simp only [stepF]; rw [if_neg h]
      obtain ⟨h1, h2⟩ := ih _ hF
      rw [e]
      refine ⟨h1, fun y => ?_⟩
      rw [h2, List.mem_cons]
      constructor
      · rintro (h3 | h3)
        · exact .inl h3
        · exact .inr ⟨.inr h3.1, h3.2⟩
      · rintro (h3 | ⟨rfl | h3, h4⟩)
        · exact .inl h3
        · left
          simp only [Bool.and_eq_true, Bool.not_eq_true', decide_eq_false_iff_not, not_and, Decidable.not_not] at h
          exact h h4
        · exact .inr ⟨h3, h4⟩

theorem count_eq (vl : List Nat) (al en : Int) (P : ByteArray) (h6 : ∀ y ∈ vl, y < 6) : (vl.foldl (stepF (good (bit al) P (sel (bit en) 6))) []).length = (sel (counts vl al en P) 6).length := by
  obtain ⟨h1, h2⟩ := foldF_mem (good (bit al) P (sel (bit en) 6)) vl [] List.nodup_nil
  refine List.Perm.length_eq ((List.perm_ext_iff_of_nodup h1 (sel_nodup _ _)).2 fun y => ?_)
  rw [h2, mem_sel]
  have hen : y < 6 → (y ∈ sel (bit en) 6 ↔ bit en y = true) := fun hy => by rw [mem_sel]; simp [hy]
  simp only [List.not_mem_nil, false_or, good, counts, Bool.and_eq_true, Bool.not_eq_true', decide_eq_true_eq, decide_eq_false_iff_not]
  constructor
  · rintro ⟨hm, ⟨ha, hp'⟩, he⟩
    have hy := h6 y hm
    exact ⟨hy, ⟨⟨hm, ha⟩, hp'⟩, by rw [hen hy] at he; simpa using he⟩
  · rintro ⟨hy, ⟨⟨hm, ha⟩, hp'⟩, he⟩
    exact ⟨hm, ⟨ha, hp'⟩, by rw [hen hy]; simp [he]⟩

/-- makeUp's answer is what the law wants. -/
theorem answer_want (ms rs : Nat → Int) (al en : Int) (x : Nat) (P : ByteArray) (sh : Int) :
    answer (fun k => sel (pick ms k) 6) (fun k => sel (pick rs k) 6) (bit al) P (sel (bit en) 6) ((sel (pick ms x) 6).foldl (stepS (bit al)) [x]) sh =
      want (vis (fun k => sel (pick ms k) 6) (fun k => sel (pick rs k) 6) (srch ms al x) (srch ms al x).length) al en P sh := by
  rw [srch_eq]
  unfold answer
  obtain ⟨vl, hvl⟩ : ∃ vl, vis (fun k => sel (pick ms k) 6) (fun k => sel (pick rs k) 6) (srch ms al x) (srch ms al x).length = vl := ⟨_, rfl⟩
  have h6 : ∀ y ∈ vl, y < 6 := fun y hy => by
    rw [← hvl] at hy
    simp only [vis, List.mem_flatMap, List.mem_append] at hy
    obtain ⟨m, _, hy | hy⟩ := hy
    · exact ((mem_sel _ _ _).1 hy).1
    · exact ((mem_sel _ _ _).1 hy).1
  have hc := count_eq vl al en P h6
  rw [hvl, hc]
  unfold want
  by_cases h0 : sh ≤ 0
  · rw [if_pos h0]
    have : sh ≤ ((sel (counts vl al en P) 6).length : Int) := by omega
    simp [this]
  · rw [if_neg h0]
    by_cases hn : vl = []
    · rw [← hc, hn]
      simp only [ne_eq, not_true_eq_false, false_and, decide_false, List.foldl_nil, List.length_nil]
      exact (decide_eq_false (by omega)).symm
    · simp [hn]
end Go.Proofs.Ybulkckim
