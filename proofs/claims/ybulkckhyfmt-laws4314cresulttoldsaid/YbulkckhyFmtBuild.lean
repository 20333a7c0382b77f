import Derived.Test.YbulkckhyFmtText
import Derived.Deep.CutRange
namespace Go.Proofs.YbulkckhyFmt
open Go.RowKit Go.Extern.Stop Go.Stop Go.Extern
open Go.ChangeMaps (setBlock)

theorem info9 : (Ybaf.prog.info? 9).map (fun i => (i.zero, i.size, i.bytes)) = some (some (.string ⟨#[]⟩), 1, 16) := by kernel_rfl

/-- The object under work: at N its members, at N + 1 what is taken (nothing), at N + 2 its cells; its names' slice lies behind. -/
structure Mid (w wr : World) (path : ByteArray) (nv : Value) (n : Nat) (xs : List Value) (es : Array MapEntry) (c : Nat) : Prop where
  below : Below w.heap.size w wr
  size : w.heap.size + 3 ≤ wr.heap.size
  mem : wr.heap[w.heap.size]? = some (.map es c)
  tak : wr.heap[w.heap.size + 1]? = some (.map #[] 0)
  obj : wr.heap[w.heap.size + 2]? = some (.cells #[.string path, nv, .map (some w.heap.size), .map (some (w.heap.size + 1))] 33 (0, 0))
  own : wr.ownsRow (w.heap.size + 3) 9 1 nv n xs

theorem Mid.alloc {w wr : World} {path : ByteArray} {nv : Value} {n : Nat} {xs : List Value} {es : Array MapEntry} {c : Nat} (h : Mid w wr path nv n xs es c) (o : Obj) : Mid w (wr.alloc o) path nv n xs es c := by
  have hs := h.size
  exact ⟨h.below.alloc (by omega) o, by simp; omega, (Go.heap_alloc_old _ _ (by omega)).trans h.mem, (Go.heap_alloc_old _ _ (by omega)).trans h.tak, (Go.heap_alloc_old _ _ (by omega)).trans h.obj, h.own.alloc o⟩

def startW (w : World) (path : ByteArray) : World :=
  ((w.alloc (.map #[] 0)).alloc (.map #[] 0)).alloc (.cells #[.string path, .slice none 0 0, .map (some w.heap.size), .map (some (w.heap.size + 1))] 33)

theorem Mid.start (w : World) (path : ByteArray) : Mid w (startW w path) path (.slice none 0 0) 0 [] #[] 0 := by
  unfold startW
  refine ⟨(((Below.refl _ _).alloc (Nat.le_refl _) _).alloc (by simp) _).alloc (by simp; omega) _, by simp, ?_, ?_, ?_, World.ownsRow_nil _ _ _ _⟩
  · rw [Go.heap_alloc_old _ _ (by simp; omega), Go.heap_alloc_old _ _ (by simp)]; exact heap_alloc_new _ _
  · rw [Go.heap_alloc_old _ _ (by simp)]
    have := heap_alloc_new (w.alloc (.map #[] 0)) (.map #[] 0)
    simpa using this
  · have := heap_alloc_new ((w.alloc (.map #[] 0)).alloc (.map #[] 0)) (.cells #[.string path, .slice none 0 0, .map (some w.heap.size), .map (some (w.heap.size + 1))] 33)
    simpa using this

/-- Behind the append of one name: what is known of the world. -/
theorem Mid.grown {w wr w1 : World} {path : ByteArray} {nv : Value} {n : Nat} {xs : List Value} {es : Array MapEntry} {c : Nat} (h : Mid w wr path nv n xs es c) (o : Obj)
    (hg : (wr.alloc o).grownBy w1 nv.ownBlock) : Below w.heap.size w w1 ∧ w.heap.size + 3 ≤ w1.heap.size ∧ w1.heap[w.heap.size]? = some (.map es c) ∧ w1.heap[w.heap.size + 1]? = some (.map #[] 0) ∧
      w1.heap[w.heap.size + 2]? = some (.cells #[.string path, nv, .map (some w.heap.size), .map (some (w.heap.size + 1))] 33 (0, 0)) := by
  have ha := h.alloc o
  have hs := ha.size
  have hlt := ha.own.lt
  have hne : ∀ k, k < w.heap.size + 3 → some k ≠ nv.ownBlock := fun k hk e => by have := (hlt k e.symm).1; omega
  refine ⟨ha.below.grown hg (by omega) (fun k hk => by have := (hlt k hk).1; omega), Nat.le_trans hs hg.size, ?_, ?_, ?_⟩
  · exact (hg.block _ (by omega) (hne _ (by omega))).trans ha.mem
  · exact (hg.block _ (by omega) (hne _ (by omega))).trans ha.tak
  · exact (hg.block _ (by omega) (hne _ (by omega))).trans ha.obj

def steppedW (w1 : World) (N : Nat) (v' : Value) (es : Array MapEntry) (c : Nat) (s : ByteArray) (x : Value) : World :=
  setBlock (w1.setCell ⟨N + 2, 1, none⟩ v') N (.map (es.push { key := .string s, val := x, born := c }) (c + 1))

theorem ownsRow_of_heap {w w' : World} {base : Nat} {e : TypeId} {size : Nat} {v : Value} {n : Nat} {xs : List Value} (h : w.ownsRow base e size v n xs) (hh : ∀ k, base ≤ k → w'.heap[k]? = w.heap[k]?) : w'.ownsRow base e size v n xs := by
  refine ⟨h.1, ?_⟩
  rcases h.2 with hn | ⟨g, cap, cur, rfl, hb, hgg, rest⟩
  · exact .inl hn
  · exact .inr ⟨g, cap, cur, rfl, hb, (hh g hb).trans hgg, rest⟩

theorem Mid.stepped {w wr w1 : World} {path : ByteArray} {nv : Value} {n : Nat} {xs : List Value} {es : Array MapEntry} {c : Nat} (h : Mid w wr path nv n xs es c) (o : Obj)
    (hg : (wr.alloc o).grownBy w1 nv.ownBlock) (v' : Value) (s : ByteArray) (x : Value) (hown : w1.ownsRow (w.heap.size + 3) 9 1 v' (n + 1) (xs ++ [.string s])) :
    Mid w (steppedW w1 w.heap.size v' es c s x) path v' (n + 1) (xs ++ [.string s]) (es.push { key := .string s, val := x, born := c }) (c + 1) := by
  obtain ⟨b1, b2, b3, b4, b5⟩ := h.grown o hg
  have e1 : ∀ k, k ≠ w.heap.size → k ≠ w.heap.size + 2 → (steppedW w1 w.heap.size v' es c s x).heap[k]? = w1.heap[k]? := fun k h1 h2 => by
    unfold steppedW
    rw [heap_setBlock _ h1, Deep.blk_setCell_other _ _ _ _ (by simpa using h2)]
  refine ⟨?_, ?_, ?_, ?_, ?_, ?_⟩
  · exact (b1.setCell (show w.heap.size ≤ w.heap.size + 2 by omega) _).trans (below_setBlock _ (Nat.le_refl _))
  · simp [steppedW, setBlock]; omega
  · exact heap_setBlock_at _ (by simp; omega)
  · rw [e1 _ (by omega) (by omega)]; exact b4
  · unfold steppedW
    rw [heap_setBlock _ (by omega)]
    simp [World.setCell, Array.getElem?_modify, b5]
  · exact ownsRow_of_heap hown fun k hk => e1 k (by omega) (by omega)

/-- What the members hold at the name asked for. -/
def IsVal (k : Int) (sval : ByteArray) (v : Value) : Prop :=
  (k = 1 ∧ v = .iface 9 (.string sval)) ∨ (k = 2 ∧ v = .iface 39 (.string sval)) ∨ (k = 3 ∧ v = .iface 4 (.bool true)) ∨ (k = 4 ∧ v = .nilIface) ∨
  (k = 5 ∧ ∃ a, v = .iface 22 (.pointer (some a))) ∨ (k = 6 ∧ ∃ a m c, v = .iface 40 (.slice a m c))

def Built (w w' : World) (path name sval : ByteArray) (k : Int) : Prop :=
  ∃ nv n xs es c, Mid w w' path nv n xs es c ∧
    ((k = 0 ∧ Instr.findNow .string (.string name) es.toList 0 = some none) ∨ ∃ i v, Instr.findNow .string (.string name) es.toList 0 = some (some (i, v)) ∧ IsVal k sval v)

theorem findNow_app (s : ByteArray) (e : MapEntry) : ∀ (l : List MapEntry) (i : Nat), Instr.findNow .string (.string s) l i = some none →
    Instr.findNow .string (.string s) (l ++ [e]) i = Instr.findNow .string (.string s) [e] (i + l.length)
  | [], i, _ => by simp
  | x :: l, i, h => by
    simp only [List.cons_append, Instr.findNow] at h ⊢
    split at h
    · cases h
    · rw [findNow_app s e l (i + 1) h]
      simp [Instr.findNow, Nat.add_assoc, Nat.add_comm 1]
    · cases h

/-- No entry at any key yet, or one at another key; one more. -/
theorem findNow_push_ne {es : Array MapEntry} {c : Nat} {s o : ByteArray} {x : Value} (h : Instr.findNow .string (.string s) es.toList 0 = some none) (hne : (o.toList == s.toList) = false) :
    Instr.findNow .string (.string s) (es.push { key := .string o, val := x, born := c }).toList 0 = some none := by
  rw [Array.toList_push, findNow_app _ _ _ _ h]
  have e : (s == o) = false := by rw [beq_toListBytes]; rw [Bool.eq_false_iff] at hne ⊢; intro h2; exact hne (by simpa using (by simpa using h2 : s.toList = o.toList).symm)
  simp [Instr.findNow, Instr.sameNow, e]

theorem findNow_push_eq {es : Array MapEntry} {c : Nat} {s : ByteArray} {x : Value} (h : Instr.findNow .string (.string s) es.toList 0 = some none) :
    Instr.findNow .string (.string s) (es.push { key := .string s, val := x, born := c }).toList 0 = some (some (es.toList.length, x)) := by
  rw [Array.toList_push, findNow_app _ _ _ _ h]
  have e : (s == s) = true := by rw [beq_toListBytes]; simp
  simp [Instr.findNow, Instr.sameNow, e]

/-- What the walk wants to know behind the append of a name: the store's cell, the members' map behind it. -/
theorem Mid.facts {w wr w1 : World} {path : ByteArray} {nv : Value} {n : Nat} {xs : List Value} {es : Array MapEntry} {c : Nat} (h : Mid w wr path nv n xs es c) (o : Obj)
    (hg : (wr.alloc o).grownBy w1 nv.ownBlock) (v' : Value) (s : ByteArray) (hf : Instr.findNow .string (.string s) es.toList 0 = some none) :
    w1.cell? ⟨w.heap.size + 2, 1, none⟩ = some nv ∧ w1.frozen? ⟨w.heap.size + 2, 1, none⟩ = false ∧ w1.cell? ⟨w.heap.size + 2, 2, none⟩ = some (.map (some w.heap.size)) ∧
      ∀ x, (Instr.mapUpdate 30 (.map (some w.heap.size)) (.string s) x).run Ybaf.prog (w1.setCell ⟨w.heap.size + 2, 1, none⟩ v') = .ok () (steppedW w1 w.heap.size v' es c s x) := by
  obtain ⟨b1, b2, b3, b4, b5⟩ := h.grown o hg
  refine ⟨by simp [World.cell?, b5], by simp [World.frozen?, b5], by simp [World.cell?, b5], fun x => ?_⟩
  exact update_new _ 30 9 20 w.heap.size es c s x Ybaf.underlying30 Ybaf.underlying9 (by rw [Deep.blk_setCell_other _ _ _ _ (by simp)]; exact b3) hf

/-- A slice that owns an element is no nil. -/
theorem owned_shape {w : World} {base : Nat} {e : TypeId} {size : Nat} {v : Value} {n : Nat} {xs : List Value} (h : w.ownsRow base e size v (n + 1) xs) : ∃ g cap, v = .slice (some ⟨g, 0, none⟩) (n + 1) cap := by
  rcases h.2 with ⟨_, h⟩ | ⟨g, cap, _, h, _⟩
  · omega
  · exact ⟨g, cap, h⟩

set_option maxHeartbeats 800000 in
theorem build0 (path name other sval : ByteArray) (w : World) :
    Calls Ybaf.prog 5 #[.string path, .string name, .string other, .int .i64 0, .string sval] w fun e w' => e = .returned (.pointer (some ⟨w.heap.size + 2, 0, none⟩)) ∧ Built w w' path name sval 0 := by
  obtain ⟨i0, hi, hz0, hz1, hz2⟩ := info_parts info9
  have hmm := @run_makeMap Ybaf.prog
  by_cases hne : (other.toList == name.toList) = true
  · have HB := hide_it (Mid.start w path)
    go_enter Ybaf.func5, Ybaf.ntmps5
    go_wp2_with fail
    go_ret
    exact ⟨rfl, _, _, _, _, _, HB.out, .inl ⟨rfl, rfl⟩⟩
  · have hne' : (other.toList == name.toList) = false := by simpa using hne
    clear hne
    go_enter Ybaf.func5, Ybaf.ntmps5
    go_upto_region 2 with fail
    have hM := Mid.start w path
    unfold startW at hM
    generalize (((w.alloc (.map #[] 0)).alloc (.map #[] 0)).alloc (.cells #[.string path, .slice none 0 0, .map (some w.heap.size), .map (some (w.heap.size + 1))] 33)) = wm at hM ⊢
    obtain ⟨es, c, hM, HF⟩ : ∃ es c, Mid w wm path (.slice none 0 0) 0 [] es c ∧ Hid (∀ s, Instr.findNow .string (.string s) es.toList 0 = some none) := ⟨_, _, hM, fun _ => rfl⟩
    have hsz := hM.size
    have q1 : wm.cell? ⟨w.heap.size + 2, 1, none⟩ = some (.slice none 0 0) := by simp [World.cell?, hM.obj]
    go_wp2_with (at_builtin; refine wpList_append_own _ rfl (.tmp 25) (.tmp 27) 29 rfl (w.heap.size + 3) 9 i0 (.string ⟨#[]⟩) 1 16 Ybaf.underlying29 hi hz0 hz1 hz2 rfl (by decide) _ _ _ rfl (hM.own.alloc _) ⟨wm.heap.size, 0, none⟩ 1 1 [.string other] rfl rfl ?c1 ?c2 ?c3 ?c4 ?c5 ?_)
    case c1 => exact cell_one_new _ _ _
    case c2 => intro u hu; simp at hu; subst hu; rfl
    case c3 => unfold maxLen; omega
    case c4 => omega
    case c5 => simp; omega
    intro v' w1 hown hgrow _
    obtain ⟨g, cap, rfl⟩ := owned_shape hown
    obtain ⟨s1, s2, s3, s4⟩ := hM.facts _ hgrow (.slice (some ⟨g, 0, none⟩) (0 + 1) cap) other (HF.out other)
    have HB := hide_it (fun x => hM.stepped _ hgrow _ other x hown)
    have HG := hide_it (fun x => findNow_push_ne (c := c) (x := x) (HF.out name) hne')
    clear hM hgrow hown q1 hmm
    go_wp2_with fail
    go_ret
    exact ⟨rfl, _, _, _, _, _, HB.out _, .inl ⟨rfl, HG.out _⟩⟩
end Go.Proofs.YbulkckhyFmt
