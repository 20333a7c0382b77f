import Derived.Test.YbulkckimBuilt
namespace Go.Proofs.Ybulkckim
open Go.RowKit Go.Shelf
open Go.ChangeMaps (setBlock)

theorem idB_refl : ∀ i, i < 6 → (idB i == idB i) = true := by decide +kernel

theorem findNow_hit (s : ByteArray) (hss : (s == s) = true) (v : Value) (b : Nat) : ∀ (es : List MapEntry) (i : Nat), Instr.findNow .string (.string s) es i = some none → ∃ j, Instr.findNow .string (.string s) (es ++ [{ key := .string s, val := v, born := b }]) i = some (some (j, v)) := by
  intro es
  induction es with
  | nil =>
    intro i _
    have hs : Instr.sameNow .string (.string s) (.string s) = some (s == s) := rfl
    refine ⟨i, ?_⟩
    show Instr.findNow _ _ [_] i = _
    unfold Instr.findNow
    rw [hs, hss]
  | cons e es ih =>
    intro i h
    unfold Instr.findNow at h
    rw [List.cons_append]
    unfold Instr.findNow
    revert h
    cases hs : Instr.sameNow .string (.string s) e.key with
    | none => simp
    | some q => cases q <;> simp_all

theorem findNow_still (s : ByteArray) (v : Value) (e' : MapEntry) : ∀ (es : List MapEntry) (i j : Nat), Instr.findNow .string (.string s) es i = some (some (j, v)) → Instr.findNow .string (.string s) (es ++ [e']) i = some (some (j, v)) := by
  intro es
  induction es with
  | nil => intro i j h; simp [Instr.findNow] at h
  | cons e es ih =>
    intro i j h
    unfold Instr.findNow at h
    rw [List.cons_append]
    unfold Instr.findNow
    revert h
    cases hs : Instr.sameNow .string (.string s) e.key with
    | none => simp
    | some q =>
      cases q
      · exact ih (i + 1) j
      · simp

/-- One more node alive. -/
theorem alive_put {W : World} {am : Nat} {NB : Nat → Nat} {al : Nat → Bool} (i : Nat) (hi : i < 6) (h : AliveAt W am NB (fun k => decide (k < i) && al k)) (ha : al i = true) :
    ∃ o, (Instr.mapUpdate 61 (.map (some am)) (.string (idB i)) (.pointer (some ⟨NB i, 0, none⟩))).run Yba.prog W = .ok () (setBlock W am o) ∧
      AliveAt (setBlock W am o) am NB (fun k => decide (k < i + 1) && al k) ∧ (setBlock W am o).heap.size = W.heap.size ∧ ∀ r, r ≠ am → (setBlock W am o).heap[r]? = W.heap[r]? := by
  obtain ⟨es, c, hm, hf⟩ := h
  have hi0 := (hf i hi).2 (by simp)
  refine ⟨_, update_new (P := Yba.prog) W 61 36 41 am es c (idB i) _ Yba.underlying61 Yba.underlying36 hm hi0, ?_, by show (Array.setIfInBounds _ _ _).size = _; simp, fun r hr => (MapKept.heap_set hm).2 r hr⟩
  refine ⟨_, _, (MapKept.heap_set hm).1, fun k hk => ⟨fun hk1 => ?_, fun hk1 => ?_⟩⟩
  · rw [Array.toList_push]
    by_cases e : k = i
    · subst e; exact findNow_hit _ (idB_refl k hi) _ _ _ _ hi0
    · have hk2 : (decide (k < i) && al k) = true := by
        simp only [Bool.and_eq_true, decide_eq_true_eq] at hk1 ⊢; exact ⟨by omega, hk1.2⟩
      obtain ⟨j, hj⟩ := (hf k hk).1 hk2
      exact ⟨j, findNow_still _ _ _ _ _ _ hj⟩
  · rw [Array.toList_push]
    have e : k ≠ i := fun e => by subst e; simp [ha] at hk1
    have hk2 : (decide (k < i) && al k) = false := by
      simp only [Bool.and_eq_false_iff, decide_eq_false_iff_not] at hk1 ⊢
      rcases hk1 with h | h
      · left; omega
      · right; exact h
    exact findNow_push _ _ (idB_beq k hk i hi e) _ _ _ _ ((hf k hk).2 hk2)

theorem alive_skip {W : World} {am : Nat} {NB : Nat → Nat} {al : Nat → Bool} (i : Nat) (h : AliveAt W am NB (fun k => decide (k < i) && al k)) (ha : al i = false) : AliveAt W am NB (fun k => decide (k < i + 1) && al k) := by
  have : (fun k => decide (k < i + 1) && al k) = (fun k => decide (k < i) && al k) := by
    funext k
    by_cases e : k = i
    · subst e; simp [ha]
    · have : (k < i + 1) ↔ k < i := by omega
      simp [this]
  rw [this]; exact h

theorem alive_nil (W : World) (am : Nat) (NB : Nat → Nat) (al : Nat → Bool) (h : W.heap[am]? = some (.map #[] 0)) : AliveAt W am NB (fun k => decide (k < 0) && al k) :=
  ⟨#[], 0, h, fun k _ => ⟨fun h => by simp at h, fun _ => rfl⟩⟩

theorem AliveAt.six {W : World} {am : Nat} {NB : Nat → Nat} {al : Nat → Bool} (h : AliveAt W am NB (fun k => decide (k < 6) && al k)) : AliveAt W am NB al := by
  obtain ⟨es, c, hm, hf⟩ := h
  exact ⟨es, c, hm, fun k hk => ⟨fun h => (hf k hk).1 (by simp [hk, h]), fun h => (hf k hk).2 (by simp [h])⟩⟩

/-- Those that are searched, besides x. -/
def searchable (ms : Nat → Int) (al : Int) (i q : Nat) : Bool := pick ms i q && bit al q

def ints (l : List Nat) : List Value := l.map fun (k : Nat) => Value.int .i64 (k : Int)
theorem ints_append (a : List Nat) (k : Nat) : ints (a ++ [k]) = ints a ++ [.int .i64 (k : Int)] := by simp [ints]

def preB : Nat → ByteArray
  | 0 => ⟨#[]⟩ | 1 => ⟨#[48]⟩ | 2 => ⟨#[49]⟩ | 3 => ⟨#[48, 49]⟩ | _ => ⟨#[49, 50]⟩
theorem pre_at : ∀ k, k < 5 → (#[.string ⟨#[]⟩, .string ⟨#[48]⟩, .string ⟨#[49]⟩, .string ⟨#[48, 49]⟩, .string ⟨#[49, 50]⟩] : Array Value)[k]? = some (.string (preB k)) := by
  intro k hk
  match k, hk with
  | 0, _ => rfl
  | 1, _ => rfl
  | 2, _ => rfl
  | 3, _ => rfl
  | 4, _ => rfl
theorem preB_size (k : Nat) : (preB k).size ≤ 2 := by
  match k with
  | 0 => decide
  | 1 => decide
  | 2 => decide
  | 3 => decide
  | k + 4 => show (ByteArray.mk #[49, 50]).size ≤ 2; decide
end Go.Proofs.Ybulkckim
