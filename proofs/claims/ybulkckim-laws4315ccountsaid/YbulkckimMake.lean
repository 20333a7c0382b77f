import Derived.Test.YbulkckimLeave
import Derived.Maps.OwnIn
import Derived.Laws.EntriesVeiled
import Derived.Sort.LoopGhostIn
namespace Go.Proofs.Ybulkckim
open Go.RowKit Go.Shelf
attribute [local go_sem] Oper.semAt_some

theorem allocs_heap (w : World) (os : List Obj) : (os.foldl World.alloc w).heap = w.heap ++ os.toArray := by
  induction os generalizing w with
  | nil => simp
  | cons o os ih =>
    rw [List.foldl_cons, ih]
    show (w.heap.push o) ++ os.toArray = _
    simp
theorem allocs_at (w : World) (os : List Obj) (i : Nat) (o : Obj) (h : os[i]? = some o) : (os.foldl World.alloc w).heap[w.heap.size + i]? = some o := by
  rw [allocs_heap, Array.getElem?_append_right (by omega)]
  simpa using h
theorem allocs_below (w : World) (os : List Obj) : Below w.heap.size w (os.foldl World.alloc w) := by
  have h : ∀ (os : List Obj) (v : World), Below w.heap.size w v → Below w.heap.size w (os.foldl World.alloc v) := fun os => by
    induction os with
    | nil => exact fun v h => h
    | cons o os ih => exact fun v h => ih _ (h.alloc h.size o)
  exact h os w (Below.refl _ _)

def mu0 (w : World) (am : Nat) (ev : Value) (P : ByteArray) (s : Int) (xp : Value) : List Obj :=
  [.cells #[.map (some am)] 61, .cells #[ev] 62, .cells #[.string P] 9, .cells #[.int .i64 s] 3, .cells #[.bool false] 4, .cells #[.slice none 0 0] 62,
   .cells #[.func (.func 24) #[] #[.pointer (some ⟨w.heap.size, 0, none⟩), .pointer (some ⟨w.heap.size + 2, 0, none⟩), .pointer (some ⟨w.heap.size + 1, 0, none⟩), .pointer (some ⟨w.heap.size + 5, 0, none⟩), .pointer (some ⟨w.heap.size + 3, 0, none⟩)]] 84,
   .cells #[xp] 41, .cells #[.slice (some ⟨w.heap.size + 7, 0, none⟩) 1 1] 85]

theorem MU.start (w : World) (am : Nat) (ev : Value) (P : ByteArray) (s : Int) (NB : Nat → Nat) (x : Nat) :
    MU w ((mu0 w am ev P s (.pointer (some ⟨NB x, 0, none⟩))).foldl World.alloc w) am ev P s NB false (.slice none 0 0) [] (.slice (some ⟨w.heap.size + 7, 0, none⟩) 1 1) [x] := by
  have h := fun i o (h : (mu0 w am ev P s (.pointer (some ⟨NB x, 0, none⟩)))[i]? = some o) => allocs_at w _ i o h
  refine ⟨allocs_below _ _, h 0 _ rfl, h 1 _ rfl, h 2 _ rfl, h 3 _ rfl, h 4 _ rfl, h 5 _ rfl, h 6 _ rfl, h 8 _ rfl, World.ownsRow_nil _ _ _ _, ?_⟩
  exact ⟨by simp, .inr ⟨w.heap.size + 7, 1, _, rfl, Nat.le_refl _, h 7 _ rfl, by simp, by unfold maxLen; omega, by simp, by simp⟩⟩

theorem own_cells {A B : World} {row : Option Nat} {n : Nat} (hg : A.grownBy B row) (hr : ∀ r, row = some r → n ≤ r ∧ ∃ o : Obj, A.heap[r]? = some o ∧ o.isCells = false) :
    ∀ (b : Nat) (ob : Obj), A.heap[b]? = some ob → ob.isCells = true → B.heap[b]? = some ob := fun b ob hb hc => by
  refine (hg.block b (Array.getElem?_eq_some_iff.1 hb).1 (fun e => ?_)).trans hb
  obtain ⟨_, o, ho, hf⟩ := hr b e.symm
  rw [hb] at ho; cases ho; rw [hc] at hf; cases hf

theorem own_below {A B : World} {row : Option Nat} {n m : Nat} (hg : A.grownBy B row) (hr : ∀ r, row = some r → n ≤ r ∧ ∃ o : Obj, A.heap[r]? = some o ∧ o.isCells = false) (hm : m ≤ n) (hA : m ≤ A.heap.size) : Below m A B :=
  (Below.refl _ _).grown hg hA (fun k e => by have := (hr k e).1; omega)

theorem Fr.keepsFrom {p : Nat → Prop} {w w' : World} (h : Fr p w w') (n : Nat) (hp : ∀ b, p b → ∀ ob : Obj, w.heap[b]? = some ob → ob.isCells = true) : KeepsFrom n w w' :=
  ⟨h.size, fun k o _ hk ho => h.obj hk (fun e => by rw [hp k e o hk] at ho; cases ho)⟩

/-- One more to search. -/
def stepS (al : Nat → Bool) (S : List Nat) (k : Nat) : List Nat := if al k && !decide (k ∈ S) then S ++ [k] else S

theorem stepS_ne (al : Nat → Bool) (ks : List Nat) : ∀ S : List Nat, S ≠ [] → ks.foldl (stepS al) S ≠ [] := by
  induction ks with
  | nil => exact fun S h => h
  | cons k ks ih =>
    intro S h
    refine ih _ ?_
    unfold stepS
    split
    · simp
    · exact h
theorem stepS_six (al : Nat → Bool) (ks : List Nat) (hk : ∀ k ∈ ks, k < 6) : ∀ S : List Nat, (∀ x ∈ S, x < 6) → ∀ x ∈ ks.foldl (stepS al) S, x < 6 := by
  induction ks with
  | nil => exact fun S h => h
  | cons k ks ih =>
    intro S h
    refine ih (fun k' hk' => hk k' (List.mem_cons_of_mem _ hk')) _ ?_
    unfold stepS
    split
    · intro x hx
      rcases List.mem_append.1 hx with h1 | h1
      · exact h x h1
      · simp at h1; rw [h1]; exact hk k (List.mem_cons_self ..)
    · exact h
theorem stepS_len (al : Nat → Bool) (ks : List Nat) : ∀ S : List Nat, (ks.foldl (stepS al) S).length ≤ S.length + ks.length := by
  induction ks with
  | nil => exact fun S => by simp
  | cons k ks ih =>
    intro S
    have h1 := ih (stepS al S k)
    have h2 : (stepS al S k).length ≤ S.length + 1 := by unfold stepS; split <;> simp
    simp only [List.foldl_cons, List.length_cons]
    omega

theorem info41 : (Yba.prog.info? 41).map (fun i => (i.zero, i.size, i.bytes)) = some (some (.pointer none), 1, 8) := by kernel_rfl

/-- The IDs met, the first q of those searched being done. -/
def vis (mem rev : Nat → List Nat) (S : List Nat) (q : Nat) : List Nat := (S.take q).flatMap fun n => mem n ++ rev n
/-- A node to make up with. -/
def good (al : Nat → Bool) (P : ByteArray) (A : List Nat) (k : Nat) : Bool := al k && hp (idB k) P && !decide (k ∈ A)

/-- makeUp's answer: something is met at all, and of those to make up with there are short or more. -/
def answer (mem rev : Nat → List Nat) (al : Nat → Bool) (P : ByteArray) (A : List Nat) (S : List Nat) (s : Int) : Bool :=
  decide (vis mem rev S S.length ≠ [] ∧ s ≤ (((vis mem rev S S.length).foldl (stepF (good al P A)) []).length : Int))

theorem stepF_mono (g : Nat → Bool) (ks : List Nat) : ∀ S : List Nat, S.length ≤ (ks.foldl (stepF g) S).length := by
  induction ks with
  | nil => exact fun S => Nat.le_refl _
  | cons k ks ih =>
    intro S
    have h1 := ih (stepF g S k)
    have h2 : S.length ≤ (stepF g S k).length := by unfold stepF; split <;> simp
    simp only [List.foldl_cons]
    omega

theorem vis_succ (mem rev : Nat → List Nat) (S : List Nat) {q : Nat} (hq : q < S.length) : vis mem rev S (q + 1) = vis mem rev S q ++ (mem S[q] ++ rev S[q]) := by
  unfold vis
  rw [List.take_add_one, List.flatMap_append, List.getElem?_eq_getElem hq]
  simp

theorem vis_prefix (mem rev : Nat → List Nat) (S : List Nat) (q : Nat) : vis mem rev S q <+: vis mem rev S S.length := by
  unfold vis
  rw [List.take_length]
  refine ⟨(S.drop q).flatMap fun n => mem n ++ rev n, ?_⟩
  rw [← List.flatMap_append, List.take_append_drop]

theorem answer_true {mem rev : Nat → List Nat} {al : Nat → Bool} {P : ByteArray} {A S : List Nat} {s : Int} {l : List Nat} (hl : l <+: vis mem rev S S.length) (h0 : l ≠ []) (h1 : s ≤ ((l.foldl (stepF (good al P A)) []).length : Int)) :
    answer mem rev al P A S s = true := by
  unfold answer
  obtain ⟨r, hr⟩ := hl
  rw [← hr, List.foldl_append]
  have := stepF_mono (good al P A) r (l.foldl (stepF (good al P A)) [])
  simp only [decide_eq_true_eq]
  exact ⟨by simp [h0], by omega⟩

theorem answer_false {mem rev : Nat → List Nat} {al : Nat → Bool} {P : ByteArray} {A S : List Nat} {s : Int} (h : vis mem rev S S.length = [] ∨ ¬ s ≤ (((vis mem rev S S.length).foldl (stepF (good al P A)) []).length : Int)) :
    answer mem rev al P A S s = false := by
  unfold answer
  simp only [decide_eq_false_iff_not]
  rintro ⟨a, b⟩
  rcases h with h | h
  · exact a h
  · exact h b

theorem enoughMU {w W : World} {am : Nat} {ev : Value} {P : ByteArray} {s : Int} {NB : Nat → Nat} {fv : Value} {F : List Nat} {sv : Value} {Sx : List Nat} {al : Nat → Bool} {mem rev : Nat → List Nat} {m₀ : Nat} {A : List Nat}
    (hM : MU w W am ev P s NB false fv F sv Sx) (hP : P.size ≤ 2) (hN : Nodes w NB mem rev) (hA : AliveAt w am NB al) (rE : IdRow m₀ w ev A) (hA6 : ∀ x ∈ A, x < 6) (hF6 : ∀ x ∈ F, x < 6) (hFl : F.length ≤ 1000) (k : Nat) (hk : k < 6) :
    Calls Yba.prog 24 #[.string (idB k), .pointer (some ⟨w.heap.size, 0, none⟩), .pointer (some ⟨w.heap.size + 2, 0, none⟩), .pointer (some ⟨w.heap.size + 1, 0, none⟩), .pointer (some ⟨w.heap.size + 5, 0, none⟩), .pointer (some ⟨w.heap.size + 3, 0, none⟩)] W fun e W' =>
      e = .returned (.bool (decide (s ≤ ((stepF (good al P A) F k).length : Int)))) ∧ (∃ fv', MU w W' am ev P s NB false fv' (stepF (good al P A) F k) sv Sx) ∧
      Fr (fun b => b = w.heap.size + 5 ∨ fv.ownBlock = some b) W W' := by
  have lam : am < w.heap.size := by obtain ⟨es, c, h, _⟩ := hA; exact (Array.getElem?_eq_some_iff.1 h).1
  obtain ⟨_, hst, _⟩ := hN.at' k hk
  have l8 := (Array.getElem?_eq_some_iff.1 hM.k8).1
  refine (enoughGo am w.heap.size (w.heap.size + 2) (w.heap.size + 1) (w.heap.size + 5) (w.heap.size + 3) m₀ (w.heap.size + 7) NB al k P s ev fv A F W hk hP (hA.keep (hM.below.block am lam)) (cell_keep hst hM.below) hM.k0 hM.k2 hM.k1 hM.k5 hM.k3 (ownsRow_keep rE hM.below) hA6 hM.rF hF6 hFl (by omega)).mono ?_
  rintro e W' ⟨rfl, fv', h1, h2, h3⟩
  exact ⟨rfl, ⟨fv', hM.found h3 h1 h2⟩, h3⟩

theorem found_cells {w W : World} {am : Nat} {ev : Value} {P : ByteArray} {s : Int} {NB : Nat → Nat} {res : Bool} {fv : Value} {F : List Nat} {sv : Value} {Sx : List Nat} (hM : MU w W am ev P s NB res fv F sv Sx) :
    ∀ b, (b = w.heap.size + 5 ∨ fv.ownBlock = some b) → (∃ c t, W.heap[b]? = some (.cells c t (0, 0)) ∧ (t = 62 ∨ t = 36)) ∧ w.heap.size ≤ b := fun b hb => by
  rcases hb with h | h
  · exact ⟨⟨_, _, by rw [h]; exact hM.k5, .inl rfl⟩, by omega⟩
  · obtain ⟨c, hc⟩ := row_tag hM.rF h
    exact ⟨⟨_, _, hc, .inr rfl⟩, by have := row_ge hM.rF h; omega⟩

theorem stepF_six (g : Nat → Bool) (ks : List Nat) (hk : ∀ k ∈ ks, k < 6) : ∀ S : List Nat, (∀ x ∈ S, x < 6) → ∀ x ∈ ks.foldl (stepF g) S, x < 6 := by
  induction ks with
  | nil => exact fun S h => h
  | cons k ks ih =>
    intro S h
    refine ih (fun k' hk' => hk k' (List.mem_cons_of_mem _ hk')) _ ?_
    unfold stepF
    split
    · intro x hx
      rcases List.mem_append.1 hx with h1 | h1
      · exact h x h1
      · simp at h1; rw [h1]; exact hk k (List.mem_cons_self ..)
    · exact h
theorem stepF_len (g : Nat → Bool) (ks : List Nat) : ∀ S : List Nat, (ks.foldl (stepF g) S).length ≤ S.length + ks.length := by
  induction ks with
  | nil => exact fun S => by simp
  | cons k ks ih =>
    intro S
    have h1 := ih (stepF g S k)
    have h2 : (stepF g S k).length ≤ S.length + 1 := by unfold stepF; split <;> simp
    simp only [List.foldl_cons, List.length_cons]
    omega
theorem vis_len (mem rev : Nat → List Nat) (hml : ∀ n, n < 6 → (mem n).length ≤ 6 ∧ (rev n).length ≤ 6) : ∀ S : List Nat, (∀ x ∈ S, x < 6) → (S.flatMap fun n => mem n ++ rev n).length ≤ S.length * 12 := by
  intro S
  induction S with
  | nil => intro; simp
  | cons a S ih =>
    intro h
    have h1 := ih (fun x hx => h x (List.mem_cons_of_mem _ hx))
    have h2 := hml a (h a (List.mem_cons_self ..))
    simp only [List.flatMap_cons, List.length_append, List.length_cons]
    omega

def vals (l : List K6) : List Nat := l.map (·.1)
def fnd (al : Nat → Bool) (P : ByteArray) (A l : List Nat) : List Nat := l.foldl (stepF (good al P A)) []
def NotYet (al : Nat → Bool) (P : ByteArray) (A : List Nat) (s : Int) (l : List Nat) : Prop := l = [] ∨ ¬ s ≤ ((fnd al P A l).length : Int)
def Got (al : Nat → Bool) (P : ByteArray) (A : List Nat) (s : Int) (l : List Nat) : Prop := l ≠ [] ∧ s ≤ ((fnd al P A l).length : Int)
theorem fnd_next (al : Nat → Bool) (P : ByteArray) (A v : List Nat) (pre : List K6) (k : K6) : fnd al P A (v ++ vals (pre ++ [k])) = stepF (good al P A) (fnd al P A (v ++ vals pre)) k.1 := by
  unfold fnd vals
  rw [List.map_append, List.foldl_append, List.foldl_append, List.foldl_append]
  rfl
theorem got_next {al : Nat → Bool} {P : ByteArray} {A v : List Nat} {s : Int} {pre : List K6} {k : K6} (h : s ≤ ((stepF (good al P A) (fnd al P A (v ++ vals pre)) k.1).length : Int)) : Got al P A s (v ++ vals (pre ++ [k])) :=
  ⟨by simp [vals], by rw [fnd_next]; exact h⟩
theorem notYet_next {al : Nat → Bool} {P : ByteArray} {A v : List Nat} {s : Int} {pre : List K6} {k : K6} (h : ¬ s ≤ ((stepF (good al P A) (fnd al P A (v ++ vals pre)) k.1).length : Int)) : NotYet al P A s (v ++ vals (pre ++ [k])) :=
  .inr (by rw [fnd_next]; exact h)
theorem vals_nil (v : List Nat) : v ++ vals [] = v := by simp [vals]

set_option maxRecDepth 100000 in
set_option maxHeartbeats 2000000 in
theorem makeUpGo (w : World) (am : Nat) (NB : Nat → Nat) (al : Nat → Bool) (x : Nat) (ev : Value) (A : List Nat) (m₀ : Nat) (P : ByteArray) (s : Int) (mem rev : Nat → List Nat) (hx : x < 6) (hP : P.size ≤ 2)
    (hN : Nodes w NB mem rev) (hA : AliveAt w am NB al) (rE : IdRow m₀ w ev A) (hA6 : ∀ x ∈ A, x < 6) (hml : ∀ n, n < 6 → (mem n).length ≤ 6 ∧ (rev n).length ≤ 6) :
    Calls Yba.prog 12 #[.map (some am), .pointer (some ⟨NB x, 0, none⟩), ev, .string P, .int .i64 s] w fun e w' => e = .returned (.bool (answer mem rev al P A ((mem x).foldl (stepS al) [x]) s)) ∧ Below w.heap.size w w' := by
  obtain ⟨⟨ca, hca⟩, hst, ⟨T, t₀, E, S, V, U, L, M, hT0, hTab, hmem, hown⟩, r₀, ov, iv, hRev⟩ := hN.at' x hx
  have lN := (Array.getElem?_eq_some_iff.1 hca).1
  have HTB : Hid _ := tableGo (NB x) T
  have lam : am < w.heap.size := by obtain ⟨es, c, h, _⟩ := hA; exact (Array.getElem?_eq_some_iff.1 h).1
  obtain ⟨eo, ec, hev⟩ : ∃ eo ec, ev = .slice eo A.length ec := by
    rcases rE.cases with ⟨a, b⟩ | ⟨g, c, a, _⟩
    · exact ⟨none, 0, by rw [a, b]; rfl⟩
    · exact ⟨_, _, a⟩
  subst hev
  have HG6 : Hid (∀ m, m < 6 → ∀ y ∈ mem m ++ rev m, y < 6) := fun m hm y hy => by
    obtain ⟨_, _, ⟨T, m₀, E, S, V, U, L, M, _, h4, h5, _⟩, m₁, ov, iv, h7⟩ := hN.at' m hm
    rcases List.mem_append.1 hy with h | h
    · rw [← h5] at h
      simp only [flat, List.mem_flatMap, List.mem_range] at h
      obtain ⟨j, hj, hy⟩ := h
      exact h4.six j hj y hy
    · exact h7.six y h
  refine (callsIn_wide (n := 10)).1 ?_
  refine callsIn_of_wp_marks Yba.func12 rfl trivial ?_ rfl
  simp only [Yba.ntmps12, List.size_toArray, List.length_cons, List.length_nil, Nat.reduceAdd, Nat.reduceSub, Array.replicate_succ, Array.replicate_zero, List.push_toArray, List.append_toArray, List.nil_append, List.cons_append]
  gi_wp2_with fail
  refine ⟨trivial, ?_⟩
  have hM0 := MU.start w am (.slice eo A.length ec) P s NB x
  generalize hW0 : World.alloc _ (Obj.cells #[Value.slice _ 1 1] 85) = W0
  have hW0' : (mu0 w am (.slice eo A.length ec) P s (.pointer (some ⟨NB x, 0, none⟩))).foldl World.alloc w = W0 := hW0
  rw [hW0'] at hM0
  clear hW0 hW0'
  refine (callsIn_wide.2 (HTB.out W0 (cell_keep hT0 hM0.below))).mono ?_
  rintro e w' ⟨rfl, hw'⟩
  subst hw'
  gi_wp2_with fail
  refine ⟨trivial, ?_⟩
  refine (members_in _ T _).mono ?_
  rintro e w1 ⟨rfl, hw1⟩
  subst hw1
  gi_wp2_with fail
  generalize hp8 : w.heap.size + 1 + 1 + 1 + 1 + 1 + 1 + 1 + 1 = p8
  generalize hp7 : w.heap.size + 1 + 1 + 1 + 1 + 1 + 1 + 1 = p7
  generalize hp6 : w.heap.size + 1 + 1 + 1 + 1 + 1 + 1 = p6
  generalize hp5 : w.heap.size + 1 + 1 + 1 + 1 + 1 = p5
  generalize hp4 : w.heap.size + 1 + 1 + 1 + 1 = p4
  generalize hp3 : w.heap.size + 1 + 1 + 1 = p3
  generalize hp2 : w.heap.size + 1 + 1 = p2
  generalize hp1 : w.heap.size + 1 = p1
  generalize hBt : w'.heap.size = Bt
  have HPP : Hid (w.heap.size + 1 = p1 ∧ w.heap.size + 2 = p2 ∧ w.heap.size + 3 = p3 ∧ w.heap.size + 4 = p4 ∧ w.heap.size + 5 = p5 ∧ w.heap.size + 6 = p6 ∧ w.heap.size + 7 = p7 ∧ w.heap.size + 8 = p8) := ⟨by omega, by omega, by omega, by omega, by omega, by omega, by omega, by omega⟩
  clear hp1 hp2 hp3 hp4 hp5 hp6 hp7 hp8
  obtain ⟨i0, hi0, hz0, hz1, hz2⟩ := info_parts info41
  have lBt : Bt < (w'.alloc (Obj.cells #[Value.pointer (some { block := T, off := 0 })] 43)).heap.size := by simp; omega
  have hwB : w.heap.size ≤ w'.heap.size := hM0.below.size
  have cBt : (w'.alloc (Obj.cells #[Value.pointer (some { block := T, off := 0 })] 43)).heap[Bt]? = some (.cells #[.pointer (some ⟨T, 0, none⟩)] 43 (0, 0)) := by rw [← hBt]; exact heap_alloc_new _ _
  obtain ⟨xs, hxs⟩ : ∃ xs : List K6, xs.map (·.1) = mem x := ⟨(mem x).attach.map (fun y => ⟨y.1, by
    have h : y.1 ∈ flat L 8 := by rw [hmem]; exact y.2
    simp only [flat, List.mem_flatMap, List.mem_range] at h
    obtain ⟨j, hj, hy⟩ := h
    exact hTab.six j hj _ hy⟩), by simp [List.map_map, Function.comp_def]⟩
  have hM1 : MU w (w'.alloc (Obj.cells #[Value.pointer (some { block := T, off := 0 })] 43)) am (.slice eo A.length ec) P s NB false (.slice none 0 0) [] (.slice (some ⟨w.heap.size + 7, 0, none⟩) 1 1) [x] :=
    hM0.keep ((Below.refl _ _).alloc hM0.below.size _) (fun b ob hb _ => (Below.heap_alloc _ _ _ (Array.getElem?_eq_some_iff.1 hb).1).trans hb)
  generalize hW1 : w'.alloc (Obj.cells #[Value.pointer (some { block := T, off := 0 })] 43) = W1 at *
  refine wpIn_rangeFunc_ownG rfl (by omega) (gf := 37) (lb := #[.pointer (some ⟨Bt, 0, none⟩)]) rfl trivial (enters_of Yba.func37 (by kernel_rfl) rfl)
    (members_stops 9 (by omega) Bt w.heap.size t₀ T E S V U x L M xs (by rw [hxs, hmem]) hx hown W1 lBt hM1.below.size (by simp [World.cell?, cBt]) (fun W' hW' => hTab.keep (hM1.below.trans hW')))
    KpB.trans (fun W l o o' hl ho hc _ => ⟨belowK_b (w := W1) hM1.below.size W l o o' hl ho hc (by assumption), World.putObj_heap_other (by omega)⟩) (Below.refl _ _) (fun _ => rfl)
    (fun pre W => ∃ sv, MU w W am (.slice eo A.length ec) P s NB false (.slice none 0 0) [] sv ((pre.map (·.1)).foldl (stepS al) [x]) ∧ W.heap[Bt]? = some (.cells #[.pointer (some ⟨T, 0, none⟩)] 43 (0, 0)))
    (fun _ _ _ => False) ?_ (fun _ _ _ _ _ h _ _ => h) ⟨_, hM1, cBt⟩ ?a₁ ?assign ?body ?done ?stop
  · rintro pre W W' row ⟨sv, h1, h2⟩ hg hr
    exact ⟨sv, h1.keep (own_below hg hr hM1.below.size h1.below.size) (own_cells hg hr), own_cells hg hr _ _ h2 rfl⟩
  case assign =>
    intro l y W K hK
    gi_wp2
    exact hK
  case body =>
    rintro l pre ⟨k, hk⟩ W ⟨sv, hM, hB⟩ hlen
    obtain ⟨Sq, hSq⟩ : ∃ Sq, (pre.map (·.1)).foldl (stepS al) [x] = Sq := ⟨_, rfl⟩
    have hSq0 : Sq ≠ [] := by rw [← hSq]; exact stepS_ne _ _ _ (by simp)
    have hSq6 : ∀ y ∈ Sq, y < 6 := by rw [← hSq]; exact stepS_six al _ (fun k' hk' => by obtain ⟨a, _, rfl⟩ := List.mem_map.1 hk'; exact a.2) _ (by simpa using hx)
    have hSql : Sq.length ≤ 1 + pre.length := by rw [← hSq]; have := stepS_len al (pre.map (·.1)) [x]; simpa using this
    have hnext : ((pre ++ [(⟨k, hk⟩ : K6)]).map (·.1)).foldl (stepS al) [x] = stepS al Sq k := by rw [← hSq]; simp
    rw [hSq] at hM
    have HNX : Hid _ := hnext
    have hl := (hA.keep (hM.below.block am lam)).look k hk
    have HCP : Hid _ := containsP hM.rS hSq0 hSq6 hN.inj (fun i hi => let ⟨⟨c, hc⟩, _⟩ := hN.at' i hi; ⟨c, (hM.below.block _ (Array.getElem?_eq_some_iff.1 hc).1).trans hc⟩) k hk
    have c0 : W.cell? ⟨w.heap.size, 0, none⟩ = some (.map (some am)) := by simp [World.cell?, hM.k0]
    obtain ⟨hp1, hp2, hp3, hp4, hp5, hp6, hp7, hp8'⟩ := HPP.out
    have c8 : W.cell? ⟨p8, 0, none⟩ = some sv := by rw [← hp8']; simp [World.cell?, hM.k8]
    have f8 : W.frozen? ⟨p8, 0, none⟩ = false := by rw [← hp8']; simp [World.frozen?, hM.k8]
    obtain ⟨so, sc, hsv⟩ : ∃ so sc, sv = .slice so Sq.length sc := by
      rcases hM.rS.cases with ⟨a, b⟩ | ⟨g, c, a, _⟩
      · exact (hSq0 b).elim
      · exact ⟨_, _, a⟩
    have HM : Hid _ := hM
    have HB : Hid _ := hB
    have HSV : Hid _ := hsv
    have hlen6 : xs.length ≤ 6 := by have := (hml x hx).1; rw [← hxs, List.length_map] at this; exact this
    have lp8 : p8 < W.heap.size := by rw [← hp8']; exact (Array.getElem?_eq_some_iff.1 hM.k8).1
    obtain ⟨X, hX⟩ : ∃ X, idB k = X := ⟨_, rfl⟩
    rw [hX] at hl
    simp only [hX]
    unfold nodePtr at hl
    rw [hsv] at c8 HCP
    have lp7 : w.heap.size + 7 ≤ W.heap.size := by omega
    clear hX hM hB hsv hSq hnext hp1 hp2 hp3 hp4 hp5 hp6 hp7 hp8'
    cases ha : al k with
    | false =>
      rw [ha] at hl
      simp only [Bool.false_eq_true, if_false] at hl
      gi_wp2
      refine ⟨trivial, ?_⟩
      gi_wp2
      refine ⟨KeepsFrom.refl _ _, KpB.refl _ _ _, sv, ?_, HB.out⟩
      rw [show _ = stepS al Sq k from HNX.out]
      have e : stepS al Sq k = Sq := by simp [stepS, ha]
      rw [e]; exact HM.out
    | true =>
      rw [ha] at hl
      simp only [if_true] at hl
      gi_wp2_with fail
      refine ⟨trivial, ?_⟩
      refine (CallsIn.inRound l (callsIn_wide.2 HCP.out)).mono ?_
      rintro e w2 ⟨rfl, hw2⟩
      subst hw2
      cases hd : decide (k ∈ Sq) with
      | true =>
        gi_wp2
        refine ⟨KeepsFrom.refl _ _, KpB.refl _ _ _, sv, ?_, HB.out⟩
        rw [show _ = stepS al Sq k from HNX.out]
        have e : stepS al Sq k = Sq := by simp only [stepS, hd]; simp
        rw [e]; exact HM.out
      | false =>
        gi_wp2_with (gi_at_builtin; refine wpListIn_append_own_at _ rfl _ _ 85 rfl (w.heap.size + 7) 41 i0 _ 1 8 Yba.underlying85 hi0 hz0 hz1 hz2 rfl (by omega) (.slice so Sq.length sc) Sq.length (Sq.map fun k => Value.pointer (some ⟨NB k, 0, none⟩)) rfl ?c1 ⟨w2.heap.size, 0, none⟩ 1 1 [.pointer (some ⟨NB k, 0, none⟩)] rfl rfl ?c2 ?c3 ?c4 ?c5 ?c6 ?_)
        case c1 =>
          have hr := HM.out.rS
          rw [show sv = _ from HSV.out] at hr
          exact World.ownsRow.alloc hr _
        case c2 => exact World.news_of_block (cs := #[.pointer (some ⟨NB k, 0, none⟩)]) (t := 41) (fr := (0, 0)) (heap_alloc_new w2 _)
        case c3 => simp [Value.oneCell']
        case c4 => unfold maxLen; omega
        case c5 => omega
        case c6 => simp; omega
        intro v' w3 hown hgrow _ hat
        obtain ⟨hp1, hp2, hp3, hp4, hp5, hp6, hp7, hp8'⟩ := HPP.out
        obtain ⟨g, cap, rfl, hg1, hg2⟩ := hown.form (by omega)
        have hM2 : MU w w2 am (.slice eo A.length ec) P s NB false (.slice none 0 0) [] (.slice so Sq.length sc) Sq := by have h := HM.out; rw [show sv = _ from HSV.out] at h; exact h
        have hne8 : (Value.slice so Sq.length sc).ownBlock ≠ some p8 := fun e => by obtain ⟨c, hc⟩ := row_tag hM2.rS e; rw [← hp8', hM2.k8] at hc; cases hc
        have e8 : w3.cell? ⟨p8, 0, none⟩ = some (.slice so Sq.length sc) := (hgrow.cell_far _ (by simp; omega) (Ne.symm hne8)).trans ((World.cell?_of_block (w := w2) (w' := w2.alloc _) (a := ⟨p8, 0, none⟩) (Below.heap_alloc w2 _ p8 lp8)).trans c8)
        have g8 : w3.frozen? ⟨p8, 0, none⟩ = false := (hgrow.frozen_far _ (by simp; omega) (Ne.symm hne8)).trans ((World.frozen?_of_block (w := w2) (w' := w2.alloc _) (a := ⟨p8, 0, none⟩) (Below.heap_alloc w2 _ p8 lp8)).trans f8)
        have r := MU.search hM2 (k := k) ((Below.refl w2.heap.size w2).alloc (Nat.le_refl _) _) hown hgrow (by
          rcases hat with h | h
          · exact .inl h.symm
          · exact .inr (by simp [Value.ownBlock] at h; rw [h]; simp))
        rw [hp8'] at r
        have HR : Hid _ := r
        clear r hM2 hp1 hp2 hp3 hp4 hp5 hp6 hp7 hp8'
        gi_wp2
        obtain ⟨r1, r2⟩ := HR.out
        obtain ⟨hp1, hp2, hp3, hp4, hp5, hp6, hp7, hp8'⟩ := HPP.out
        have hcs : ∀ b, (b = p8 ∨ (Value.slice so Sq.length sc).ownBlock = some b) → ∃ c t, w2.heap[b]? = some (.cells c t (0, 0)) ∧ (t = 85 ∨ t = 41) := fun b hb => by
          rcases hb with h | h
          · exact ⟨_, _, by rw [h, ← hp8']; exact HM.out.k8, .inl rfl⟩
          · have hr := HM.out.rS
            rw [show sv = _ from HSV.out] at hr
            obtain ⟨c, hc⟩ := row_tag hr h
            exact ⟨_, _, hc, .inr rfl⟩
        have hBB : w2.heap[Bt]? = some (.cells #[.pointer (some ⟨T, 0, none⟩)] 43 (0, 0)) := HB.out
        have hnB : ¬ (Bt = p8 ∨ (Value.slice so Sq.length sc).ownBlock = some Bt) := fun e => by
          obtain ⟨c, t, h, ht⟩ := hcs Bt e
          rw [hBB] at h; cases h; rcases ht with h | h <;> cases h
        refine ⟨r2.keepsFrom _ (fun b hb ob hob => by obtain ⟨c, t, h, _⟩ := hcs b hb; rw [h] at hob; cases hob; rfl), ⟨r2.below HM.out.below.size (fun b hb => ?_), (r2.obj hBB hnB).trans hBB.symm⟩, .slice (some ⟨g, 0, none⟩) (Sq.length + 1) cap, ?_, r2.obj hBB hnB⟩
        · rcases hb with h | h
          · omega
          · have hr := HM.out.rS
            rw [show sv = _ from HSV.out] at hr
            have := row_ge hr h; omega
        · rw [show _ = stepS al Sq k from HNX.out]
          have e : stepS al Sq k = Sq ++ [k] := by simp only [stepS, hd, ha]; simp
          rw [e]; exact r1
  case stop =>
    rintro D c pre W _ _ h _
    exact h.elim
  case done =>
    rintro D ys W hD rfl ⟨sv, hM, hB⟩ hK
    obtain ⟨Sx, hSx⟩ : ∃ Sx, (ys.map (·.1)).foldl (stepS al) [x] = Sx := ⟨_, rfl⟩
    rw [hSx] at hM
    have hSx0 : Sx ≠ [] := by rw [← hSx]; exact stepS_ne _ _ _ (by simp)
    obtain ⟨g, sc, hsv, hsg⟩ : ∃ g sc, sv = .slice (some ⟨g, 0, none⟩) Sx.length sc ∧ ∀ i (hi : i < Sx.length), W.cell? ⟨g, i, none⟩ = some (.pointer (some ⟨NB Sx[i], 0, none⟩)) := by
      rcases hM.rS.cases with ⟨a, b⟩ | ⟨g, c, a, _, _, _, _, h⟩
      · exact (hSx0 b).elim
      · exact ⟨g, c, a, h⟩
    obtain ⟨hp1, hp2, hp3, hp4, hp5, hp6, hp7, hp8⟩ := HPP.out
    have c8 : W.cell? ⟨p8, 0, none⟩ = some sv := by rw [← hp8]; simp [World.cell?, hM.k8]
    rw [hsv] at c8
    have HM : Hid _ := hM
    have HSV : Hid _ := hsv
    have hMk : Marks w.heap.size W.heap.size [{ target := Target.collected D, args := #[] }] W [D] := ⟨rfl, by simp, fun E hE => by
      simp at hE; subst hE
      exact ⟨by have := hM1.below.size; omega, (Array.getElem?_eq_some_iff.1 hK).1, hK⟩⟩
    clear hp1 hp2 hp3 hp4 hp5 hp6 hp7 hp8 hM hsv hsg
    gi_wp2_with fail
    refine wpIn_loop_ghost_k (fun gh a W => ∃ (q : Nat) (ds : List Deferred) (Ds : List Nat) (fv : Value) (u17 u18 u19 u45 u46 u47 u48 u49 u50 u51 u52 u53 u54 u55 u56 u57 u58 u59 u60 u61 : Value), gh + q = Sx.length ∧ a = { tmps := #[Value.map (some am), Value.pointer (some ⟨NB x, 0, none⟩), Value.slice eo A.length ec, Value.string P, Value.int .i64 s, Value.pointer (some ⟨w.heap.size, 0, none⟩), undef, Value.pointer (some ⟨p1, 0, none⟩), Value.pointer (some ⟨p2, 0, none⟩), Value.pointer (some ⟨p3, 0, none⟩), Value.pointer (some ⟨p4, 0, none⟩), Value.pointer (some ⟨p5, 0, none⟩), Value.pointer (some ⟨p6, 0, none⟩), Value.pointer (some ⟨p8, 0, none⟩), undef, undef, undef, u17, u18, u19, Value.func (Fn.func 24) #[] #[Value.pointer (some ⟨w.heap.size, 0, none⟩), Value.pointer (some ⟨p2, 0, none⟩), Value.pointer (some ⟨p1, 0, none⟩), Value.pointer (some ⟨p5, 0, none⟩), Value.pointer (some ⟨p3, 0, none⟩)], Value.pointer (some ⟨NB x, 0, none⟩), Value.slice (some ⟨p7, 0, none⟩) 1 1, Value.pointer (some ⟨NB x, 0, none⟩), Value.pointer (some ⟨T, 0, none⟩), Value.func (Fn.func 37) #[] #[Value.pointer (some ⟨Bt, 0, none⟩)], undef, undef, undef, undef, undef, undef, undef, undef, undef, undef, undef, undef, undef, undef, undef, undef, Value.slice (some ⟨g, 0, none⟩) Sx.length sc, Value.int .i64 (Sx.length : Int), Value.int .i64 (q : Int), u45, u46, u47, u48, u49, u50, u51, u52, u53, u54, u55, u56, u57, u58, u59, u60, u61], defers := ds } ∧
      Marks w.heap.size W.heap.size ds W Ds ∧ MU w W am (.slice eo A.length ec) P s NB false fv (fnd al P A (vis mem rev Sx q)) sv Sx ∧ NotYet al P A s (vis mem rev Sx q)) Sx.length ?start ?round
    case start => exact ⟨0, _, [D], .slice none 0 0, _, _, _, _, _, _, _, _, _, _, _, _, _, _, _, _, _, _, _, _, rfl, rfl, hMk, by simpa [vis, fnd] using HM.out, .inl (by simp [vis])⟩
    case round =>
      rintro gk a W2 ⟨q, ds, Ds, fv, u17, u18, u19, u45, u46, u47, u48, u49, u50, u51, u52, u53, u54, u55, u56, u57, u58, u59, u60, u61, hgq, rfl, hMk2, hM2, hne⟩ J K hJ hK2
      have HJ : Hid _ := hJ
      clear hJ hM0 hW1 lBt cBt hM1 hD hB hK c8 HM hMk hwB hBt HTB
      by_cases hq : q < Sx.length
      · have hq' : (q : Int) < (Sx.length : Int) := by omega
        obtain ⟨n0, hn0⟩ : ∃ n0, Sx[q] = n0 := ⟨_, rfl⟩
        have hn6 : n0 < 6 := by
          rw [← hn0]
          refine stepS_six al (ys.map (·.1)) (fun k' hk' => by obtain ⟨a, _, rfl⟩ := List.mem_map.1 hk'; exact a.2) [x] (by simpa using hx) _ ?_
          rw [hSx]; exact List.getElem_mem hq
        obtain ⟨⟨ca', hca'⟩, hst', ⟨T', t₁, E', S', V', U', L', M', hT0', hTab', hmem', hown'⟩, r₁, ov', iv', hRev'⟩ := hN.at' n0 hn6
        have hcq : W2.cell? ⟨g, q, none⟩ = some (.pointer (some ⟨NB n0, 0, none⟩)) := by
          have hr := hM2.rS
          rw [show sv = _ from HSV.out] at hr
          rcases hr.cases with ⟨a, _⟩ | ⟨g', c', a, _, _, _, _, h⟩
          · cases a
          · cases a; rw [h q hq, hn0]
        have HTB : Hid _ := tableGo (NB n0) T' W2 (cell_keep hT0' hM2.below)
        have HRV : Hid _ := fun W => reverse_in 9 (NB n0) W
        have HMB : Hid _ := fun W => members_in 9 T' W
        have HM2 : Hid _ := hM2
        have HGQ : Hid _ := hgq
        have HN0 : Hid _ := hn0
        clear hM2 hgq hn0
        gi_wp2_with fail
        refine ⟨trivial, ?_⟩
        refine (callsIn_wide.2 HTB.out).mono ?_
        rintro e w2 ⟨rfl, hw2⟩
        subst hw2
        gi_wp2_with fail
        refine ⟨trivial, ?_⟩
        refine (HMB.out w2).mono ?_
        rintro e w3 ⟨rfl, hw3⟩
        have hM3 : MU w w3 am (.slice eo A.length ec) P s NB false fv (fnd al P A (vis mem rev Sx q)) sv Sx := by
          rw [hw3]
          exact HM2.out.keep ((Below.refl _ _).alloc HM2.out.below.size _) (fun b ob hb _ => (Below.heap_alloc _ _ _ (Array.getElem?_eq_some_iff.1 hb).1).trans hb)
        have hMk3 : Marks w.heap.size w3.heap.size ds w3 Ds := hMk2.keep (by rw [hw3]; simp) (fun D hD h => by rw [hw3]; exact (Below.heap_alloc _ _ _ hD).trans h)
        generalize hBq : w2.heap.size = Bq
        have lBq : Bq < w3.heap.size := by rw [hw3, ← hBq]; simp
        have cBq : w3.heap[Bq]? = some (.cells #[.pointer (some ⟨T', 0, none⟩)] 43 (0, 0)) := by rw [hw3, ← hBq]; exact heap_alloc_new _ _
        obtain ⟨xs, hxs1⟩ : ∃ xs : List K6, xs.map (·.1) = mem n0 := ⟨(mem n0).attach.map (fun y => ⟨y.1, by
          have h : y.1 ∈ flat L' 8 := by rw [hmem']; exact y.2
          simp only [flat, List.mem_flatMap, List.mem_range] at h
          obtain ⟨j, hj, hy⟩ := h
          exact hTab'.six j hj _ hy⟩), by simp [List.map_map, Function.comp_def]⟩
        clear hw3
        obtain ⟨vq, hvq⟩ : ∃ vq, vis mem rev Sx q = vq := ⟨_, rfl⟩
        rw [hvq] at hM3 hne
        have hSx6 : ∀ y ∈ Sx, y < 6 := by rw [← hSx]; exact stepS_six al _ (fun k' hk' => by obtain ⟨a, _, rfl⟩ := List.mem_map.1 hk'; exact a.2) _ (by simpa using hx)
        have hSxl : Sx.length ≤ 7 := by
          have h1 := stepS_len al (ys.map (·.1)) [x]
          rw [hSx] at h1
          have h2 := (hml x hx).1
          rw [hxs] at h1
          simp at h1; omega
        have HVL : Hid (vq.length ≤ 84) := by
          show vq.length ≤ 84
          rw [← hvq]
          have h1 := vis_len mem rev hml (Sx.take q) (fun y hy => hSx6 y (List.mem_of_mem_take hy))
          have h2 : (Sx.take q).length ≤ 7 := by rw [List.length_take]; omega
          unfold vis
          omega
        have HV6 : Hid (∀ y ∈ vq, y < 6) := fun y hy => by
          rw [← hvq] at hy
          simp only [vis, List.mem_flatMap] at hy
          obtain ⟨m, hm, hy⟩ := hy
          have hm6 := hSx6 m (List.mem_of_mem_take hm)
          exact HG6.out m hm6 y hy
        gi_wp2_with fail
        refine wpIn_rangeFunc_ownG rfl (by omega) (gf := 37) (lb := #[.pointer (some ⟨Bq, 0, none⟩)]) rfl trivial (enters_of Yba.func37 (by kernel_rfl) rfl)
          (members_stops 9 (by omega) Bq w.heap.size t₁ T' E' S' V' U' n0 L' M' xs (by rw [hxs1, hmem']) hn6 hown' w3 lBq hM3.below.size (by simp [World.cell?, cBq]) (fun W' hW' => hTab'.keep (hM3.below.trans hW')))
          KpB.trans (fun W l o o' hl ho hc _ => ⟨belowK_b (w := w3) hM3.below.size W l o o' hl ho hc (by assumption), World.putObj_heap_other (by omega)⟩) (Below.refl _ _) (fun _ => rfl)
          (fun pre W => (∃ fv, MU w W am (.slice eo A.length ec) P s NB false fv (fnd al P A (vq ++ vals pre)) sv Sx) ∧ Marks w.heap.size w3.heap.size ds W Ds ∧ W.heap[Bq]? = some (.cells #[.pointer (some ⟨T', 0, none⟩)] 43 (0, 0)) ∧
            NotYet al P A s (vq ++ vals pre))
          (fun c pre W => c = .ret ∧ (∃ fv, MU w W am (.slice eo A.length ec) P s NB true fv (fnd al P A (vq ++ vals pre)) sv Sx) ∧ Marks w.heap.size w3.heap.size ds W Ds ∧
            Got al P A s (vq ++ vals pre))
          ?ownI ?ownX ⟨⟨fv, by rw [vals_nil]; exact hM3⟩, hMk3, cBq, by rw [vals_nil]; exact hne⟩ ?a₂ ?assign ?body ?done ?stop
        case ownI =>
          rintro pre W W' row ⟨⟨fv, h1⟩, h2, h3, h4⟩ hg hr
          exact ⟨⟨fv, h1.keep (own_below hg hr hM3.below.size h1.below.size) (own_cells hg hr)⟩, h2.keep (Nat.le_refl _) (fun D hD h => (hg.block D (Array.getElem?_eq_some_iff.1 h).1 (fun e => by have := (hr D e.symm).1; omega)).trans h), own_cells hg hr _ _ h3 rfl, h4⟩
        case ownX =>
          rintro c pre W W' row ⟨h0, ⟨fv, h1⟩, h2, h4⟩ hg hr
          exact ⟨h0, ⟨fv, h1.keep (own_below hg hr hM3.below.size h1.below.size) (own_cells hg hr)⟩, h2.keep (Nat.le_refl _) (fun D hD h => (hg.block D (Array.getElem?_eq_some_iff.1 h).1 (fun e => by have := (hr D e.symm).1; omega)).trans h), h4⟩
        case assign =>
          intro l y W K hK
          gi_wp2
          exact hK
        case body =>
          rintro l pre ⟨k, hk⟩ W ⟨⟨fv, hMb⟩, hMkb, hBb, hneb⟩ hlen
          obtain ⟨Fq, hFq⟩ : ∃ Fq, fnd al P A (vq ++ vals pre) = Fq := ⟨_, rfl⟩
          have hnext : fnd al P A (vq ++ vals (pre ++ [(⟨k, hk⟩ : K6)])) = stepF (good al P A) Fq k := by rw [← hFq]; exact fnd_next ..
          have hF6 : ∀ y ∈ Fq, y < 6 := by
            rw [← hFq]; refine stepF_six _ _ (fun k' hk' => ?_) _ (by simp)
            rcases List.mem_append.1 hk' with h | h
            · exact HV6.out k' h
            · obtain ⟨a, _, rfl⟩ := List.mem_map.1 h; exact a.2
          have hFl : Fq.length ≤ 1000 := by
            rw [← hFq]
            have h1 := stepF_len (good al P A) (vq ++ vals pre) []
            unfold fnd
            unfold vals at *
            have h2 := HVL.out
            have h3 : xs.length ≤ 6 := by have := (hml n0 hn6).1; rw [← hxs1, List.length_map] at this; exact this
            simp only [List.length_append, List.length_map, List.length_nil] at h1
            omega
          rw [hFq] at hMb
          have HEN : Hid _ := enoughMU hMb hP hN hA rE hA6 hF6 hFl k hk
          have HMB : Hid _ := hMb
          have HMK : Hid _ := hMkb
          have HBB : Hid _ := hBb
          have HNX : Hid _ := hnext
          have HFQ : Hid _ := hFq
          obtain ⟨hp1, hp2, hp3, hp4, hp5, hp6, hp7, hp8⟩ := HPP.out
          have c6 : W.cell? ⟨p6, 0, none⟩ = some (.func (.func 24) #[] #[.pointer (some ⟨w.heap.size, 0, none⟩), .pointer (some ⟨p2, 0, none⟩), .pointer (some ⟨p1, 0, none⟩), .pointer (some ⟨p5, 0, none⟩), .pointer (some ⟨p3, 0, none⟩)]) := by
            rw [← hp6, ← hp1, ← hp2, ← hp3, ← hp5]; simp [World.cell?, hMb.k6]
          rw [hp1, hp2, hp3, hp5] at HEN
          clear hp1 hp2 hp3 hp4 hp5 hp6 hp7 hp8 hMb hMkb hBb hnext hFq hneb
          obtain ⟨X, hX⟩ : ∃ X, idB k = X := ⟨_, rfl⟩
          rw [hX] at HEN
          simp only [hX]
          clear hX
          gi_wp2_with fail
          refine ⟨trivial, ?_⟩
          refine (CallsIn.inRound l (callsIn_wide.2 HEN.out)).mono ?_
          rintro e W4 ⟨rfl, ⟨fv', hM4⟩, hfr⟩
          have hcs := found_cells HMB.out
          rw [HPP.out.2.2.2.2.1] at hcs
          have hmk4 := HMK.out.fr hfr (fun b hb => let ⟨⟨c, t, h, _⟩, _⟩ := hcs b hb; ⟨c, t, h⟩)
          have hkf := hfr.keepsFrom w3.heap.size (fun b hb ob hob => by obtain ⟨⟨c, t, h, _⟩, _⟩ := hcs b hb; rw [h] at hob; cases hob; rfl)
          by_cases hs : s ≤ ((stepF (good al P A) Fq k).length : Int)
          · rw [show decide (s ≤ ((stepF (good al P A) Fq k).length : Int)) = true by simp [hs]]
            obtain ⟨hp1, hp2, hp3, hp4, hp5, hp6, hp7, hp8⟩ := HPP.out
            have c4 : W4.cell? ⟨p4, 0, none⟩ = some (.bool false) := by rw [← hp4]; simp [World.cell?, hM4.k4]
            have f4 : W4.frozen? ⟨p4, 0, none⟩ = false := by rw [← hp4]; simp [World.frozen?, hM4.k4]
            have hM5 := hM4.setRes true
            have hmk5 := hmk4.set hM4.k4 0 (.bool true)
            rw [hp4] at hM5 hmk5
            have HR : Hid _ := And.intro hM5 (And.intro hmk5 hkf)
            have HS : Hid _ := hs
            clear hp1 hp2 hp3 hp4 hp5 hp6 hp7 hp8 hM5 hmk5 hkf hmk4 hM4 hfr hcs hs
            gi_wp2
            refine ⟨HR.out.2.2.trans ((KeepsOthers.setCell _ _ _).from _), rfl, ⟨fv', by rw [HNX.out]; exact HR.out.1⟩, HR.out.2.1, got_next (by rw [HFQ.out]; exact HS.out)⟩
          · rw [show decide (s ≤ ((stepF (good al P A) Fq k).length : Int)) = false by simp [hs]]
            have hBB : W.heap[Bq]? = some (.cells #[.pointer (some ⟨T', 0, none⟩)] 43 (0, 0)) := HBB.out
            have hnB : ¬ (Bq = p5 ∨ fv.ownBlock = some Bq) := fun e => by
              obtain ⟨⟨c, t, h, ht⟩, _⟩ := hcs Bq e
              rw [hBB] at h; cases h; rcases ht with h | h <;> cases h
            have hB4 := hfr.obj hBB hnB
            have hkp : KpB w.heap.size Bq W W4 := ⟨hfr.below HMB.out.below.size (fun b hb => (hcs b hb).2), hB4.trans hBB.symm⟩
            have HR : Hid _ := And.intro hM4 (And.intro hmk4 (And.intro hkf (And.intro hkp hB4)))
            have HS : Hid _ := hs
            clear hkf hmk4 hM4 hfr hcs hs hkp hB4 hBB hnB
            gi_wp2
            exact ⟨HR.out.2.2.1, HR.out.2.2.2.1, ⟨fv', by rw [HNX.out]; exact HR.out.1⟩, HR.out.2.1, HR.out.2.2.2.2, notYet_next (by rw [HFQ.out]; exact HS.out)⟩
        case stop =>
          rintro D1 c pre W4 hD1 hpre ⟨rfl, ⟨fv4, hM4⟩, hMk4, hg0, hg1⟩ hK4
          obtain ⟨hp1, hp2, hp3, hp4, hp5, hp6, hp7, hp8⟩ := HPP.out
          gi_wp2_with fail
          have hD1' : D1 < W4.heap.size := (Array.getElem?_eq_some_iff.1 hK4).1
          have hMk5 := hMk4.cons (hi' := W4.heap.size) hD1 hM3.below.size hD1' hK4
          refine leaves_marks (D1 :: Ds) _ W4 hMk5 (fun W5 hfr5 => ?_)
          have hne4 : ¬ (p4 ∈ D1 :: Ds) := fun e => by
            have h := (hMk5.at' p4 e).2.2
            rw [← hp4, hM4.k4] at h; cases h
          have c4 : W5.heap[p4]? = some (.cells #[.bool true] 4 (0, 0)) := hfr5.obj (by rw [← hp4]; exact hM4.k4) hne4
          refine ⟨.bool true, res12 _ W5 p4 true rfl (by simp [World.cell?, c4]), ?_, hM4.below.trans (hfr5.below hM4.below.size (fun b hb => (hMk5.at' b hb).1))⟩
          have hl : vq ++ vals pre <+: vis mem rev Sx Sx.length := by
            refine List.IsPrefix.trans ?_ (vis_prefix mem rev Sx (q + 1))
            rw [vis_succ mem rev Sx hq, hvq, show Sx[q] = n0 from HN0.out, ← hxs1]
            refine (List.prefix_append_right_inj _).2 ?_
            obtain ⟨r, hr⟩ := hpre
            rw [← hr]
            simp [vals]
          have := answer_true (al := al) (P := P) (A := A) (s := s) hl hg0 hg1
          rw [← hxs, hSx, this]
        case done =>
          rintro D1 zs W4 hD1 rfl ⟨⟨fv4, hM4⟩, hMk4, hB4, hne4⟩ hK4
          have hD1' : D1 < W4.heap.size := (Array.getElem?_eq_some_iff.1 hK4).1
          have hMk4' := hMk4.cons (hi' := W4.heap.size) hD1 hM3.below.size hD1' hK4
          obtain ⟨vr, hvr⟩ : ∃ vr, vq ++ vals zs = vr := ⟨_, rfl⟩
          rw [hvr] at hM4 hne4
          have HWL : Hid (vr.length ≤ 90) := by
            show vr.length ≤ 90
            have h1 := HVL.out
            have h3 : zs.length ≤ 6 := by have := (hml n0 hn6).1; rw [← hxs1, List.length_map] at this; exact this
            rw [← hvr]; simp [vals]; omega
          have HW6 : Hid (∀ y ∈ vr, y < 6) := fun y hy => by
            rw [← hvr] at hy
            rcases List.mem_append.1 hy with h | h
            · exact HV6.out y h
            · obtain ⟨a, _, rfl⟩ := List.mem_map.1 h; exact a.2
          clear hM3 hMk3 cBq lBq hBq hne HM2 HTB hMk2 hB4
          gi_wp2_with fail
          refine ⟨trivial, ?_⟩
          refine (HRV.out W4).mono ?_
          rintro e w5 ⟨rfl, hw5⟩
          have hM5 : MU w w5 am (.slice eo A.length ec) P s NB false fv4 (fnd al P A vr) sv Sx := by
            rw [hw5]
            exact hM4.keep ((Below.refl _ _).alloc hM4.below.size _) (fun b ob hb _ => (Below.heap_alloc _ _ _ (Array.getElem?_eq_some_iff.1 hb).1).trans hb)
          have hMk5 : Marks w.heap.size w5.heap.size ({ target := Target.collected D1, args := #[] } :: ds) w5 (D1 :: Ds) := hMk4'.keep (by rw [hw5]; simp) (fun D hD h => by rw [hw5]; exact (Below.heap_alloc _ _ _ hD).trans h)
          generalize hBr : W4.heap.size = Br
          have lBr : Br < w5.heap.size := by rw [hw5, ← hBr]; simp
          have cBr : w5.heap[Br]? = some (.cells #[.pointer (some ⟨NB n0, 50, none⟩)] 129 (0, 0)) := by rw [hw5, ← hBr]; exact heap_alloc_new _ _
          obtain ⟨xr, hxr⟩ : ∃ xr : List K6, xr.map (·.1) = rev n0 := ⟨(rev n0).attach.map (fun y => ⟨y.1, hRev'.six y.1 y.2⟩), by simp [List.map_map, Function.comp_def]⟩
          clear hw5 hMk4 hMk4' hM4 hBr hK4
          gi_wp2_with fail
          refine wpIn_rangeFunc_ownG rfl (by omega) (gf := 43) (lb := #[.pointer (some ⟨Br, 0, none⟩)]) rfl trivial (enters_of Yba.func43 (by kernel_rfl) rfl)
            (all_stops 9 (by omega) Br w.heap.size r₁ (NB n0) ov' iv' (rev n0) xr hxr w5 lBr hM5.below.size (by simp [World.cell?, cBr]) (fun W' hW' => hRev'.keep (hM5.below.trans hW')))
            KpB.trans (fun W l o o' hl ho hc _ => ⟨belowK_b (w := w5) hM5.below.size W l o o' hl ho hc (by assumption), World.putObj_heap_other (by omega)⟩) (Below.refl _ _) (fun _ => rfl)
            (fun pre W => (∃ fv, MU w W am (.slice eo A.length ec) P s NB false fv (fnd al P A (vr ++ vals pre)) sv Sx) ∧ Marks w.heap.size w5.heap.size ({ target := Target.collected D1, args := #[] } :: ds) W (D1 :: Ds) ∧ W.heap[Br]? = some (.cells #[.pointer (some ⟨NB n0, 50, none⟩)] 129 (0, 0)) ∧
              NotYet al P A s (vr ++ vals pre))
            (fun c pre W => c = .ret ∧ (∃ fv, MU w W am (.slice eo A.length ec) P s NB true fv (fnd al P A (vr ++ vals pre)) sv Sx) ∧ Marks w.heap.size w5.heap.size ({ target := Target.collected D1, args := #[] } :: ds) W (D1 :: Ds) ∧
              Got al P A s (vr ++ vals pre))
            ?ownI ?ownX ⟨⟨fv4, by rw [vals_nil]; exact hM5⟩, hMk5, cBr, by rw [vals_nil]; exact hne4⟩ ?a₃ ?assign ?body ?done ?stop
          case ownI =>
            rintro pre W W' row ⟨⟨fv, h1⟩, h2, h3, h4⟩ hg hr
            exact ⟨⟨fv, h1.keep (own_below hg hr hM5.below.size h1.below.size) (own_cells hg hr)⟩, h2.keep (Nat.le_refl _) (fun D hD h => (hg.block D (Array.getElem?_eq_some_iff.1 h).1 (fun e => by have := (hr D e.symm).1; omega)).trans h), own_cells hg hr _ _ h3 rfl, h4⟩
          case ownX =>
            rintro c pre W W' row ⟨h0, ⟨fv, h1⟩, h2, h4⟩ hg hr
            exact ⟨h0, ⟨fv, h1.keep (own_below hg hr hM5.below.size h1.below.size) (own_cells hg hr)⟩, h2.keep (Nat.le_refl _) (fun D hD h => (hg.block D (Array.getElem?_eq_some_iff.1 h).1 (fun e => by have := (hr D e.symm).1; omega)).trans h), h4⟩
          case assign =>
            intro l y W K hK
            gi_wp2
            exact hK
          case body =>
            rintro l pre ⟨k, hk⟩ W ⟨⟨fv, hMb⟩, hMkb, hBb, hneb⟩ hlen
            obtain ⟨Fq, hFq⟩ : ∃ Fq, fnd al P A (vr ++ vals pre) = Fq := ⟨_, rfl⟩
            have hnext : fnd al P A (vr ++ vals (pre ++ [(⟨k, hk⟩ : K6)])) = stepF (good al P A) Fq k := by rw [← hFq]; exact fnd_next ..
            have hF6 : ∀ y ∈ Fq, y < 6 := by
              rw [← hFq]; refine stepF_six _ _ (fun k' hk' => ?_) _ (by simp)
              rcases List.mem_append.1 hk' with h | h
              · exact HW6.out k' h
              · obtain ⟨a, _, rfl⟩ := List.mem_map.1 h; exact a.2
            have hFl : Fq.length ≤ 1000 := by
              rw [← hFq]
              have h1 := stepF_len (good al P A) (vr ++ vals pre) []
              unfold fnd
              unfold vals at *
              have h2 := HWL.out
              have h3 : xr.length ≤ 6 := by have := (hml n0 hn6).2; rw [← hxr, List.length_map] at this; exact this
              simp only [List.length_append, List.length_map, List.length_nil] at h1
              omega
            rw [hFq] at hMb
            have HEN : Hid _ := enoughMU hMb hP hN hA rE hA6 hF6 hFl k hk
            have HMB : Hid _ := hMb
            have HMK : Hid _ := hMkb
            have HBB : Hid _ := hBb
            have HNX : Hid _ := hnext
            have HFQ : Hid _ := hFq
            obtain ⟨hp1, hp2, hp3, hp4, hp5, hp6, hp7, hp8⟩ := HPP.out
            have c6 : W.cell? ⟨p6, 0, none⟩ = some (.func (.func 24) #[] #[.pointer (some ⟨w.heap.size, 0, none⟩), .pointer (some ⟨p2, 0, none⟩), .pointer (some ⟨p1, 0, none⟩), .pointer (some ⟨p5, 0, none⟩), .pointer (some ⟨p3, 0, none⟩)]) := by
              rw [← hp6, ← hp1, ← hp2, ← hp3, ← hp5]; simp [World.cell?, hMb.k6]
            rw [hp1, hp2, hp3, hp5] at HEN
            clear hp1 hp2 hp3 hp4 hp5 hp6 hp7 hp8 hMb hMkb hBb hnext hFq hneb
            obtain ⟨X, hX⟩ : ∃ X, idB k = X := ⟨_, rfl⟩
            rw [hX] at HEN
            simp only [hX]
            clear hX
            gi_wp2_with fail
            refine ⟨trivial, ?_⟩
            refine (CallsIn.inRound l (callsIn_wide.2 HEN.out)).mono ?_
            rintro e W6 ⟨rfl, ⟨fv', hM6⟩, hfr⟩
            have hcs := found_cells HMB.out
            rw [HPP.out.2.2.2.2.1] at hcs
            have hmk6 := HMK.out.fr hfr (fun b hb => let ⟨⟨c, t, h, _⟩, _⟩ := hcs b hb; ⟨c, t, h⟩)
            have hkf := hfr.keepsFrom w5.heap.size (fun b hb ob hob => by obtain ⟨⟨c, t, h, _⟩, _⟩ := hcs b hb; rw [h] at hob; cases hob; rfl)
            by_cases hs : s ≤ ((stepF (good al P A) Fq k).length : Int)
            · rw [show decide (s ≤ ((stepF (good al P A) Fq k).length : Int)) = true by simp [hs]]
              obtain ⟨hp1, hp2, hp3, hp4, hp5, hp6, hp7, hp8⟩ := HPP.out
              have c4 : W6.cell? ⟨p4, 0, none⟩ = some (.bool false) := by rw [← hp4]; simp [World.cell?, hM6.k4]
              have f4 : W6.frozen? ⟨p4, 0, none⟩ = false := by rw [← hp4]; simp [World.frozen?, hM6.k4]
              have hM7 := hM6.setRes true
              have hmk7 := hmk6.set hM6.k4 0 (.bool true)
              rw [hp4] at hM7 hmk7
              have HR : Hid _ := And.intro hM7 (And.intro hmk7 hkf)
              have HS : Hid _ := hs
              clear hp1 hp2 hp3 hp4 hp5 hp6 hp7 hp8 hM7 hmk7 hkf hmk6 hM6 hfr hcs hs
              gi_wp2
              refine ⟨HR.out.2.2.trans ((KeepsOthers.setCell _ _ _).from _), rfl, ⟨fv', by rw [HNX.out]; exact HR.out.1⟩, HR.out.2.1, got_next (by rw [HFQ.out]; exact HS.out)⟩
            · rw [show decide (s ≤ ((stepF (good al P A) Fq k).length : Int)) = false by simp [hs]]
              have hBB : W.heap[Br]? = some (.cells #[.pointer (some ⟨NB n0, 50, none⟩)] 129 (0, 0)) := HBB.out
              have hnB : ¬ (Br = p5 ∨ fv.ownBlock = some Br) := fun e => by
                obtain ⟨⟨c, t, h, ht⟩, _⟩ := hcs Br e
                rw [hBB] at h; cases h; rcases ht with h | h <;> cases h
              have hB4 := hfr.obj hBB hnB
              have hkp : KpB w.heap.size Br W W6 := ⟨hfr.below HMB.out.below.size (fun b hb => (hcs b hb).2), hB4.trans hBB.symm⟩
              have HR : Hid _ := And.intro hM6 (And.intro hmk6 (And.intro hkf (And.intro hkp hB4)))
              have HS : Hid _ := hs
              clear hkf hmk6 hM6 hfr hcs hs hkp hB4 hBB hnB
              gi_wp2
              exact ⟨HR.out.2.2.1, HR.out.2.2.2.1, ⟨fv', by rw [HNX.out]; exact HR.out.1⟩, HR.out.2.1, HR.out.2.2.2.2, notYet_next (by rw [HFQ.out]; exact HS.out)⟩
          case stop =>
            rintro D2 c pre W6 hD2 hpre ⟨rfl, ⟨fv6, hM6⟩, hMk6, hg0, hg1⟩ hK6
            obtain ⟨hp1, hp2, hp3, hp4, hp5, hp6, hp7, hp8⟩ := HPP.out
            gi_wp2_with fail
            have hD2' : D2 < W6.heap.size := (Array.getElem?_eq_some_iff.1 hK6).1
            have hMk7 := hMk6.cons (hi' := W6.heap.size) hD2 hM5.below.size hD2' hK6
            refine leaves_marks (D2 :: D1 :: Ds) _ W6 hMk7 (fun W5 hfr5 => ?_)
            have hne4 : ¬ (p4 ∈ D2 :: D1 :: Ds) := fun e => by
              have h := (hMk7.at' p4 e).2.2
              rw [← hp4, hM6.k4] at h; cases h
            have c4 : W5.heap[p4]? = some (.cells #[.bool true] 4 (0, 0)) := hfr5.obj (by rw [← hp4]; exact hM6.k4) hne4
            refine ⟨.bool true, res12 _ W5 p4 true rfl (by simp [World.cell?, c4]), ?_, hM6.below.trans (hfr5.below hM6.below.size (fun b hb => (hMk7.at' b hb).1))⟩
            have hl : vr ++ vals pre <+: vis mem rev Sx Sx.length := by
              refine List.IsPrefix.trans ?_ (vis_prefix mem rev Sx (q + 1))
              rw [vis_succ mem rev Sx hq, hvq, show Sx[q] = n0 from HN0.out, ← List.append_assoc, ← hxs1, ← hxr, ← hvr]
              refine (List.prefix_append_right_inj _).2 ?_
              obtain ⟨r, hr⟩ := hpre
              rw [← hr]
              simp [vals]
            have := answer_true (al := al) (P := P) (A := A) (s := s) hl hg0 hg1
            rw [← hxs, hSx, this]
          case done =>
            rintro D2 zr W6 hD2 rfl ⟨⟨fv6, hM6⟩, hMk6, hB6, hne6⟩ hK6
            have hD2' : D2 < W6.heap.size := (Array.getElem?_eq_some_iff.1 hK6).1
            have hMk7 := hMk6.cons (hi' := W6.heap.size) hD2 hM5.below.size hD2' hK6
            have hvn : vr ++ vals zr = vis mem rev Sx (q + 1) := by
              rw [vis_succ mem rev Sx hq, hvq, show Sx[q] = n0 from HN0.out, ← List.append_assoc, ← hxs1, ← hxr, ← hvr]
              rfl
            rw [hvn] at hM6 hne6
            have HR : Hid _ := And.intro hM6 (And.intro hMk7 hne6)
            have hqb : (q : Int) < 8 := by omega
            clear hM6 hMk7 hne6 hMk6 hB6 hvn hM5 hMk5 cBr lBr hne4 hSx6 hSxl
            gi_wp2_with fail
            refine Handed.intro (gk - 1) ?_ (HJ.out _ _ _ ?_)
            · have := HGQ.out; omega
            · exact ⟨q + 1, _, D2 :: D1 :: Ds, fv6, _, _, _, _, _, _, _, _, _, _, _, _, _, _, _, _, _, _, _, _, by have := HGQ.out; omega, by rw [show ((q + 1 : Nat) : Int) = (q : Int) + 1 from rfl], HR.out.2.1, HR.out.1, HR.out.2.2⟩
      · obtain rfl : q = Sx.length := by omega
        have hq' : ¬ (Sx.length : Int) < (Sx.length : Int) := by omega
        obtain ⟨hp1, hp2, hp3, hp4, hp5, hp6, hp7, hp8⟩ := HPP.out
        have c4 : W2.cell? ⟨p4, 0, none⟩ = some (.bool false) := by rw [← hp4]; simp [World.cell?, hM2.k4]
        have f4 : W2.frozen? ⟨p4, 0, none⟩ = false := by rw [← hp4]; simp [World.frozen?, hM2.k4]
        have hM5 := hM2.setRes false
        have hMk5 := hMk2.set hM2.k4 0 (.bool false)
        rw [hp4] at hM5 hMk5
        have HR : Hid _ := And.intro hM5 (And.intro hMk5 hne)
        have HP4 : Hid _ := hp4
        clear hp1 hp2 hp3 hp4 hp5 hp6 hp7 hp8 hM5 hMk5 hne hM2 hMk2 hq hgq
        gi_wp2_with fail
        obtain ⟨hM5, hMk5, hne⟩ := HR.out
        have hk4 : (W2.setCell ⟨p4, 0, none⟩ (.bool false)).heap[p4]? = some (.cells #[.bool false] 4 (0, 0)) := by
          have h := hM5.k4
          rwa [HP4.out] at h
        refine leaves_marks Ds _ _ hMk5 (fun W5 hfr5 => ?_)
        have hne4 : ¬ (p4 ∈ Ds) := fun e => by
          have h := (hMk5.at' p4 e).2.2
          rw [hk4] at h; cases h
        have c5 : W5.heap[p4]? = some (.cells #[.bool false] 4 (0, 0)) := hfr5.obj hk4 hne4
        refine ⟨.bool false, res12 _ W5 p4 false rfl (by simp [World.cell?, c5]), ?_, hM5.below.trans (hfr5.below hM5.below.size (fun b hb => (hMk5.at' b hb).1))⟩
        have := answer_false (mem := mem) (rev := rev) (al := al) (P := P) (A := A) (s := s) (S := Sx) hne
        rw [← hxs, hSx, this]
end Go.Proofs.Ybulkckim
