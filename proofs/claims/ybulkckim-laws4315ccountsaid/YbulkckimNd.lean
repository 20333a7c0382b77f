import Derived.Test.YbulkckimRevNil
namespace Go.Proofs.Ybulkckim
open Go.RowKit

/-- What is known of the map `at`: nothing is in it (it is not there), or the IDs that are not in R are not found. -/
def AtOK (B : Nat) (W : World) (mp fm : Nat) (av ov iv : Value) (R : List Nat) : Prop :=
  (R = [] ∧ av = .map none ∧ ov = .slice none 0 0 ∧ iv = .slice none 0 0) ∨
  ∃ atm es c, av = .map (some atm) ∧ W.heap[atm]? = some (.map es c) ∧ B ≤ atm ∧ atm ≠ mp ∧ atm ≠ fm ∧ ∀ k, k < 6 → k ∉ R → Instr.findNow .string (.string (idB k)) es.toList 0 = some none

def ByOK (B : Nat) (W : World) (mp fm : Nat) (av pv : Value) (L : Nat) : Prop :=
  pv = .map none ∨ ∃ pm, pv = .map (some pm) ∧ ByAt B W pm L ∧ B ≤ pm ∧ pm ≠ mp ∧ pm ≠ fm ∧ av ≠ .map (some pm)

/-- A node with the reverse neighbours R. -/
structure Nd (B : Nat) (W : World) (N T mp fm : Nat) (R : List Nat) (L : Nat) (ca : Array Value) (ov av iv pv : Value) : Prop where
  node : W.heap[N]? = some (.cells ca 110 (0, 0))
  sz : ca.size = 69
  c0 : ca[0]? = some (.pointer (some ⟨T, 0, none⟩))
  c1 : ca[1]? = some (.int .u8 4)
  c8 : ca[8]? = some (.map (some mp))
  c9 : ∃ hh, ca[9]? = some (.int .u64 hh)
  c50 : ca[50]? = some ov
  c51 : ca[51]? = some av
  c52 : ca[52]? = some iv
  c53 : ca[53]? = some (.int .i64 (R.length : Int))
  c54 : ca[54]? = some pv
  c58 : ca[58]? = some (.map (some fm))
  c66 : ca[66]? = some (.slice none 0 0)
  peers : PeersOK B W mp
  failed : W.heap[fm]? = some (.map #[] 0)
  ro : IdRow B W ov R
  ri : W.ownsRow B 4 1 iv R.length (List.replicate R.length (.bool true))
  at' : AtOK B W mp fm av ov iv R
  by' : ByOK B W mp fm av pv L
  six : ∀ x ∈ R, x < 6
  lN : B ≤ N
  lmp : B ≤ mp
  lfm : B ≤ fm
  ne : mp ≠ fm
  below : B ≤ W.heap.size

theorem Nd.first {B : Nat} {w W : World} {N T mp fm bq gu wl : Nat} {hh : Int} (h : Fresh B w W N mp fm ((nodeCells T mp fm bq gu wl).setIfInBounds 9 (.int .u64 hh))) (h1 : B ≤ N) (h2 : B ≤ mp) (h3 : B ≤ fm) (h4 : mp ≠ fm) (hB : B ≤ w.heap.size) :
    Nd B W N T mp fm [] 0 ((nodeCells T mp fm bq gu wl).setIfInBounds 9 (.int .u64 hh)) (.slice none 0 0) (.map none) (.slice none 0 0) (.map none) :=
  ⟨h.node, rfl, rfl, rfl, rfl, ⟨hh, rfl⟩, rfl, rfl, rfl, rfl, rfl, rfl, rfl, h.peers, h.failed, World.ownsRow_nil _ _ _ _, World.ownsRow_nil _ _ _ _, .inl ⟨rfl, rfl, rfl, rfl⟩, .inl rfl, fun _ h => by simp at h, h1, h2, h3, h4, Nat.le_trans hB h.below.size⟩

/-- PeersOK abides what turns neither its map nor a peer. -/
theorem PeersOK.fr {n₀ : Nat} {W W' : World} {mp : Nat} {p : Nat → Prop} (h : PeersOK n₀ W mp) (hf : Fr p W W') (hm : ¬ p mp) (hp : ∀ (b : Nat) (cur : Array Value), W.heap[b]? = some (.cells cur 122 (0, 0)) → ¬ p b) : PeersOK n₀ W' mp := by
  obtain ⟨es, c, h1, h2⟩ := h
  refine ⟨es, c, hf.obj h1 hm, fun e he => ⟨(h2 e he).1, ?_⟩⟩
  obtain ⟨b, cur, a1, a2, a3, a4⟩ := (h2 e he).2
  exact ⟨b, cur, a1, a2, hf.obj a3 (hp b cur a3), a4⟩

theorem ByAt.fr {B : Nat} {W W' : World} {pm L : Nat} {p : Nat → Prop} (h : ByAt B W pm L) (hf : Fr p W W') (hm : ¬ p pm) (hp : ∀ (b : Nat) (cur : Array Value), W.heap[b]? = some (.cells cur 3 (0, 0)) → ¬ p b) : ByAt B W' pm L := by
  obtain ⟨es, c, h1, h2, h3, h4⟩ := h
  refine ⟨es, c, hf.obj h1 hm, h2, fun i hi => ?_, h4⟩
  obtain ⟨m, xs, hmL, ho⟩ := h3 i hi
  refine ⟨m, xs, hmL, row_other ho fun g hg => ?_⟩
  obtain ⟨cc, hc⟩ := row_tag ho hg
  rw [hc]; exact hf.obj hc (hp g cc hc)

theorem idB_beq : ∀ i, i < 6 → ∀ j, j < 6 → i ≠ j → (idB i == idB j) = false := by decide +kernel
end Go.Proofs.Ybulkckim
