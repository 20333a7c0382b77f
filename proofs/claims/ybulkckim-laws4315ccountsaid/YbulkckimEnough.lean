import Derived.Test.YbulkckimRev
import Derived.Test.YbulkckimAdd
import Derived.ChangeMaps5
import Derived.WideMake
import Derived.Maps.OwnSet
namespace Go.Proofs.Ybulkckim
open Go.RowKit
open Go.ChangeMaps (setBlock)

/-- 'm[s] = v', m a map keyed by strings that holds no entry at s: one entry more. -/
theorem update_new {P : Program} (w : World) (t kt et : TypeId) (r : Nat) (es : Array MapEntry) (clock : Nat) (s : ByteArray) (val : Value)
    (hm : P.underlying t = some (.map kt et)) (hk : P.underlying kt = some .string) (hb : w.heap[r]? = some (.map es clock)) (hf : Instr.findNow .string (.string s) es.toList 0 = some none) :
    (Instr.mapUpdate t (.map (some r)) (.string s) val).run P w = .ok () (setBlock w r (.map (es.push { key := .string s, val := val, born := clock }) (clock + 1))) := by
  have hc : (Instr.checkKey false 10000 kt (.string s)).run P w = .ok () w := MapKept.run_checkKey (k := .string s) hk (by simp [MapKept.IsKey]) false 9999
  simp [Instr.mapUpdate, run_underlying hm, MapKept.run_getObj_map hb, hc, MapKept.run_findKey hk hf, MapKept.run_setObj_map _ hb, Result.andThen, setBlock]

/-- 'v, ok := m[s]'. -/
theorem lookup_at {P : Program} (w : World) (t kt et : TypeId) (r : Nat) (es : Array MapEntry) (clock : Nat) (s : ByteArray) (i : Nat) (v : Value) (c : Bool)
    (hm : P.underlying t = some (.map kt et)) (hk : P.underlying kt = some .string) (hb : w.heap[r]? = some (.map es clock)) (hf : Instr.findNow .string (.string s) es.toList 0 = some (some (i, v))) :
    (Instr.lookup t (.map (some r)) (.string s) c).run P w = .ok (if c then .tuple #[v, .bool true] else v) w := by
  have hc : ∀ e : Bool, (Instr.checkKey e 10000 kt (.string s)).run P w = .ok () w := fun e => MapKept.run_checkKey (k := .string s) hk (by simp [MapKept.IsKey]) e 9999
  cases c <;> simp [Instr.lookup, run_underlying hm, MapKept.run_getObj_map hb, hc, MapKept.run_findKey hk hf, Result.andThen]

theorem lookup_none {P : Program} (w : World) (t kt et : TypeId) (r : Nat) (es : Array MapEntry) (clock : Nat) (s : ByteArray) (z : Value) (c : Bool)
    (hm : P.underlying t = some (.map kt et)) (hk : P.underlying kt = some .string) (hb : w.heap[r]? = some (.map es clock)) (hz : (zeroValue et).run P w = .ok z w) (hf : Instr.findNow .string (.string s) es.toList 0 = some none) :
    (Instr.lookup t (.map (some r)) (.string s) c).run P w = .ok (if c then .tuple #[z, .bool false] else z) w := by
  have hc : ∀ e : Bool, (Instr.checkKey e 10000 kt (.string s)).run P w = .ok () w := fun e => MapKept.run_checkKey (k := .string s) hk (by simp [MapKept.IsKey]) e 9999
  cases c <;> simp [Instr.lookup, run_underlying hm, MapKept.run_getObj_map hb, hc, MapKept.run_findKey hk hf, hz, Result.andThen]

/-- strings.HasPrefix, on short texts. -/
def hp (s P : ByteArray) : Bool := decide (P.size ≤ s.size) && ((s.extract 0 P.size).toList == P.toList)

set_option maxRecDepth 100000 in
theorem hasPrefix0 (s P : ByteArray) (w : World) (hs : s.size ≤ 2) (hP : P.size ≤ 2) :
    Calls Yba.prog 29 #[.string s, .string P] w fun e w' => e = .returned (.bool (hp s P)) ∧ w' = w := by
  have hs' : (s.size : Int) ≤ 2 := by omega
  have hP' : (P.size : Int) ≤ 2 := by omega
  by_cases hle : P.size ≤ s.size
  · have e : hp s P = ((s.extract 0 P.size).toList == P.toList) := by simp [hp, hle]
    rw [e]
    clear e
    go_enter Yba.func29, Yba.ntmps29
    go_wp2_with fail
    go_ret
    exact ⟨rfl, rfl⟩
  · have e : hp s P = false := by simp [hp, hle]
    rw [e]
    clear e
    go_enter Yba.func29, Yba.ntmps29
    go_wp2_with fail
    go_ret
    exact ⟨rfl, rfl⟩

theorem idB_size (k : Nat) (hk : k < 6) : (idB k).size ≤ 2 := by
  revert k; exact six (by decide) (by decide) (by decide) (by decide) (by decide) (by decide)

set_option maxRecDepth 100000 in
theorem hasPrefix (s P : ByteArray) (w : World) (hs : s.size ≤ 2) (hP : P.size ≤ 2) :
    Calls Yba.prog 14 #[.string s, .string P] w fun e w' => e = .returned (.bool (hp s P)) ∧ w' = w := by
  have hc := hasPrefix0 s P w hs hP
  go_enter Yba.func14, Yba.ntmps14
  go_wp2_with fail
  refine hc.mono ?_
  rintro e w' ⟨rfl, rfl⟩
  clear hc
  go_wp2_with fail
  go_ret
  exact ⟨rfl, rfl⟩

set_option maxRecDepth 100000 in
theorem statusGo (N : Nat) (w : World) (h : w.cell? ⟨N, 1, none⟩ = some (.int .u8 4)) :
    Calls Yba.prog 41 #[.pointer (some ⟨N, 0, none⟩)] w fun e w' => e = .returned (.int .u8 4) ∧ w' = w := by
  go_enter Yba.func41, Yba.ntmps41
  go_wp2_with fail
  go_ret
  exact ⟨rfl, rfl⟩

set_option maxRecDepth 100000 in
theorem tableGo (N T : Nat) (w : World) (h : w.cell? ⟨N, 0, none⟩ = some (.pointer (some ⟨T, 0, none⟩))) :
    Calls Yba.prog 26 #[.pointer (some ⟨N, 0, none⟩)] w fun e w' => e = .returned (.pointer (some ⟨T, 0, none⟩)) ∧ w' = w := by
  go_enter Yba.func26, Yba.ntmps26
  go_wp2_with fail
  go_ret
  exact ⟨rfl, rfl⟩

/-- The nodes alive, by their IDs. -/
def AliveAt (W : World) (am : Nat) (NB : Nat → Nat) (al : Nat → Bool) : Prop :=
  ∃ es clock, W.heap[am]? = some (.map es clock) ∧ ∀ k, k < 6 → (al k = true → ∃ i, Instr.findNow .string (.string (idB k)) es.toList 0 = some (some (i, .pointer (some ⟨NB k, 0, none⟩)))) ∧ (al k = false → Instr.findNow .string (.string (idB k)) es.toList 0 = some none)

def nodePtr (NB : Nat → Nat) (al : Nat → Bool) (k : Nat) : Option Addr := if al k then some ⟨NB k, 0, none⟩ else none

theorem AliveAt.look {W : World} {am : Nat} {NB : Nat → Nat} {al : Nat → Bool} (h : AliveAt W am NB al) (k : Nat) (hk : k < 6) :
    (Instr.lookup 61 (.map (some am)) (.string (idB k)) false).run Yba.prog W = .ok (.pointer (nodePtr NB al k)) W := by
  obtain ⟨es, clock, hb, hf⟩ := h
  unfold nodePtr
  cases ha : al k with
  | true =>
    obtain ⟨i, hi⟩ := (hf k hk).1 ha
    have := lookup_at (P := Yba.prog) W 61 36 41 am es clock (idB k) i _ false Yba.underlying61 Yba.underlying36 hb hi
    simpa using this
  | false =>
    have := lookup_none (P := Yba.prog) W 61 36 41 am es clock (idB k) (.pointer none) false Yba.underlying61 Yba.underlying36 hb (Yba.zeroValue41 W) ((hf k hk).2 ha)
    simpa using this

theorem AliveAt.keep {W W' : World} {am : Nat} {NB : Nat → Nat} {al : Nat → Bool} (h : AliveAt W am NB al) (hb : W'.heap[am]? = W.heap[am]?) : AliveAt W' am NB al := by
  obtain ⟨es, clock, hm, hf⟩ := h
  exact ⟨es, clock, hb.trans hm, hf⟩

set_option maxRecDepth 100000 in
theorem sNodeForGo (am : Nat) (NB : Nat → Nat) (al : Nat → Bool) (k : Nat) (P : ByteArray) (w : World) (hk : k < 6) (hP : P.size ≤ 2) (hA : AliveAt w am NB al) (hs : w.cell? ⟨NB k, 1, none⟩ = some (.int .u8 4)) :
    Calls Yba.prog 25 #[.map (some am), .string (idB k), .string P] w fun e w' => e = .returned (.bool (al k && hp (idB k) P)) ∧ w' = w := by
  have hl := hA.look k hk
  have HS : Hid _ := statusGo (NB k) w hs
  have HP : Hid _ := hasPrefix (idB k) P w (idB_size k hk) hP
  obtain ⟨X, hX⟩ : ∃ X, idB k = X := ⟨_, rfl⟩
  rw [hX] at hl HP ⊢
  unfold nodePtr at hl
  clear hX hA
  cases ha : al k with
  | true =>
    rw [ha] at hl
    simp only [if_true] at hl
    go_enter Yba.func25, Yba.ntmps25
    go_wp2_with fail
    refine Calls.mono HS.out ?_
    rintro e w' ⟨rfl, rfl⟩
    go_wp2_with fail
    refine Calls.mono HP.out ?_
    rintro e w' ⟨rfl, rfl⟩
    go_wp2_with fail
    go_ret
    exact ⟨by simp, rfl⟩
  | false =>
    rw [ha] at hl
    simp only [Bool.false_eq_true, if_false] at hl
    go_enter Yba.func25, Yba.ntmps25
    go_wp2_with fail
    go_ret
    exact ⟨by simp, rfl⟩

/-- w' is w but for the blocks of p, and new ones. -/
structure Fr (p : Nat → Prop) (w w' : World) : Prop where
  os : w'.os = w.os
  tape : w'.tape = w.tape
  output : w'.output = w.output
  size : w.heap.size ≤ w'.heap.size
  block : ∀ b, b < w.heap.size → ¬ p b → w'.heap[b]? = w.heap[b]?

theorem Fr.refl (p : Nat → Prop) (w : World) : Fr p w w := ⟨rfl, rfl, rfl, Nat.le_refl _, fun _ _ _ => rfl⟩
theorem Fr.trans {p : Nat → Prop} {a b c : World} (h : Fr p a b) (k : Fr p b c) : Fr p a c :=
  ⟨k.os.trans h.os, k.tape.trans h.tape, k.output.trans h.output, Nat.le_trans h.size k.size, fun i hi hp => (k.block i (Nat.lt_of_lt_of_le hi h.size) hp).trans (h.block i hi hp)⟩
theorem Fr.below {p : Nat → Prop} {w w' : World} (h : Fr p w w') {B : Nat} (hB : B ≤ w.heap.size) (hp : ∀ b, p b → B ≤ b) : Below B w w' :=
  ⟨h.os, h.tape, h.output, h.size, fun k hk => h.block k (by omega) (fun e => by have := hp k e; omega)⟩
theorem Fr.obj {p : Nat → Prop} {w w' : World} (h : Fr p w w') {b : Nat} {ob : Obj} (hb : w.heap[b]? = some ob) (hp : ¬ p b) : w'.heap[b]? = some ob :=
  (h.block b (Array.getElem?_eq_some_iff.1 hb).1 hp).trans hb

/-- One more of those to make up with. -/
def stepF (good : Nat → Bool) (F : List Nat) (k : Nat) : List Nat := if good k && !decide (k ∈ F) then F ++ [k] else F

set_option maxRecDepth 100000 in
set_option maxHeartbeats 1600000 in
theorem enoughGo (am pa pp pe pf ps n₀ n₁ : Nat) (NB : Nat → Nat) (al : Nat → Bool) (k : Nat) (P : ByteArray) (s : Int) (ev fv : Value) (A F : List Nat) (w : World) (hk : k < 6) (hP : P.size ≤ 2)
    (hA : AliveAt w am NB al) (hs : w.cell? ⟨NB k, 1, none⟩ = some (.int .u8 4))
    (h1 : w.heap[pa]? = some (.cells #[.map (some am)] 61 (0, 0))) (h2 : w.heap[pp]? = some (.cells #[.string P] 9 (0, 0))) (h3 : w.heap[pe]? = some (.cells #[ev] 62 (0, 0))) (h4 : w.heap[pf]? = some (.cells #[fv] 62 (0, 0))) (h5 : w.heap[ps]? = some (.cells #[.int .i64 s] 3 (0, 0)))
    (rE : IdRow n₀ w ev A) (hA6 : ∀ x ∈ A, x < 6) (rF : IdRow n₁ w fv F) (hF6 : ∀ x ∈ F, x < 6) (hFl : F.length ≤ 1000) (hn₁ : n₁ ≤ w.heap.size) :
    Calls Yba.prog 24 #[.string (idB k), .pointer (some ⟨pa, 0, none⟩), .pointer (some ⟨pp, 0, none⟩), .pointer (some ⟨pe, 0, none⟩), .pointer (some ⟨pf, 0, none⟩), .pointer (some ⟨ps, 0, none⟩)] w fun e w' =>
      e = .returned (.bool (decide (s ≤ ((stepF (fun k => al k && hp (idB k) P && !decide (k ∈ A)) F k).length : Int)))) ∧
      ∃ fv', w'.heap[pf]? = some (.cells #[fv'] 62 (0, 0)) ∧ IdRow n₁ w' fv' (stepF (fun k => al k && hp (idB k) P && !decide (k ∈ A)) F k) ∧ Fr (fun b => b = pf ∨ fv.ownBlock = some b) w w' := by
  obtain ⟨i0, hi0, hz0, hz1, hz2⟩ := info_parts info36
  have HS : Hid _ := sNodeForGo am NB al k P w hk hP hA hs
  have HE : Hid _ := containsRow rE hA6 k hk
  have HF : Hid _ := containsRow rF hF6 k hk
  have c1 : w.cell? ⟨pa, 0, none⟩ = some (.map (some am)) := by simp [World.cell?, h1]
  have c2 : w.cell? ⟨pp, 0, none⟩ = some (.string P) := by simp [World.cell?, h2]
  have c3 : w.cell? ⟨pe, 0, none⟩ = some ev := by simp [World.cell?, h3]
  have c4 : w.cell? ⟨pf, 0, none⟩ = some fv := by simp [World.cell?, h4]
  have c5 : w.cell? ⟨ps, 0, none⟩ = some (.int .i64 s) := by simp [World.cell?, h5]
  have f4 : w.frozen? ⟨pf, 0, none⟩ = false := by simp [World.frozen?, h4]
  obtain ⟨eo, ec, hev⟩ : ∃ eo ec, ev = .slice eo A.length ec := by
    rcases rE.cases with ⟨a, b⟩ | ⟨g, c, a, _⟩
    · exact ⟨none, 0, by rw [a, b]; rfl⟩
    · exact ⟨_, _, a⟩
  obtain ⟨fo, fc, hfv⟩ : ∃ fo fc, fv = .slice fo F.length fc := by
    rcases rF.cases with ⟨a, b⟩ | ⟨g, c, a, _⟩
    · exact ⟨none, 0, by rw [a, b]; rfl⟩
    · exact ⟨_, _, a⟩
  rw [hev] at c3 HE
  rw [hfv] at c4 HF
  have hpf : fv.ownBlock ≠ some pf := fun e => by obtain ⟨c, hc⟩ := row_tag rF e; rw [h4] at hc; cases hc
  have hps : fv.ownBlock ≠ some ps := fun e => by obtain ⟨c, hc⟩ := row_tag rF e; rw [h5] at hc; cases hc
  have hsf : ps ≠ pf := fun e => by rw [e, h4] at h5; cases h5
  have lpf : pf < w.heap.size := (Array.getElem?_eq_some_iff.1 h4).1
  have lps : ps < w.heap.size := (Array.getElem?_eq_some_iff.1 h5).1
  have HRF : Hid _ := rF
  have H4 : Hid _ := h4
  have HFV : Hid _ := hfv
  obtain ⟨al', hal'⟩ : ∃ b, (al k && hp (idB k) P) = b := ⟨_, rfl⟩
  obtain ⟨ea, hea⟩ : ∃ b, decide (k ∈ A) = b := ⟨_, rfl⟩
  obtain ⟨fa, hfa⟩ : ∃ b, decide (k ∈ F) = b := ⟨_, rfl⟩
  have hstep : stepF (fun k => al k && hp (idB k) P && !decide (k ∈ A)) F k = if al' && !ea && !fa then F ++ [k] else F := by
    show (if (al k && hp (idB k) P && !decide (k ∈ A) && !decide (k ∈ F)) = true then F ++ [k] else F) = _
    rw [hal', hea, hfa]
  rw [hstep]
  rw [hal'] at HS
  rw [hea] at HE
  rw [hfa] at HF
  obtain ⟨X, hX⟩ : ∃ X, idB k = X := ⟨_, rfl⟩
  have HX : Hid _ := hX
  rw [hX] at HS HE HF ⊢
  obtain ⟨len, hlen⟩ : ∃ len, F.length = len := ⟨_, rfl⟩
  have hlen' : (len : Int) ≤ 1000 := by omega
  rw [hlen] at c4 HF hFl
  have HLN : Hid _ := hlen
  clear hstep hal' hea hfa hX hs h1 h2 h3 h4 h5 rE rF hA hev hlen hfv
  have hend : ∀ b : Bool, (b = decide (s ≤ (len : Int))) → Ending.returned (Value.bool b) = Ending.returned (.bool (decide (s ≤ (F.length : Int)))) := fun b hb => by rw [hb, show F.length = len from HLN.out]
  have HEND : Hid _ := hend
  clear hend
  cases al' with
  | false =>
    go_enter Yba.func24, Yba.ntmps24
    go_wp2_with fail
    refine Calls.mono HS.out ?_
    rintro e w' ⟨rfl, rfl⟩
    go_wp2_with fail
    go_ret
    exact ⟨HEND.out _ rfl, fv, H4.out, HRF.out, Fr.refl _ _⟩
  | true =>
    cases ea with
    | true =>
      go_enter Yba.func24, Yba.ntmps24
      go_wp2_with fail
      refine Calls.mono HS.out ?_
      rintro e w' ⟨rfl, rfl⟩
      go_wp2_with fail
      refine Calls.mono HE.out ?_
      rintro e w' ⟨rfl, rfl⟩
      go_wp2_with fail
      go_ret
      exact ⟨HEND.out _ rfl, fv, H4.out, HRF.out, Fr.refl _ _⟩
    | false =>
      cases fa with
      | true =>
        go_enter Yba.func24, Yba.ntmps24
        go_wp2_with fail
        refine Calls.mono HS.out ?_
        rintro e w' ⟨rfl, rfl⟩
        go_wp2_with fail
        refine Calls.mono HE.out ?_
        rintro e w' ⟨rfl, rfl⟩
        go_wp2_with fail
        refine Calls.mono HF.out ?_
        rintro e w' ⟨rfl, rfl⟩
        go_wp2_with fail
        go_ret
        exact ⟨HEND.out _ rfl, fv, H4.out, HRF.out, Fr.refl _ _⟩
      | false =>
        go_enter Yba.func24, Yba.ntmps24
        go_wp2_with fail
        refine Calls.mono HS.out ?_
        rintro e w' ⟨rfl, rfl⟩
        go_wp2_with fail
        refine Calls.mono HE.out ?_
        rintro e w' ⟨rfl, rfl⟩
        go_wp2_with fail
        refine Calls.mono HF.out ?_
        rintro e w' ⟨rfl, rfl⟩
        go_wp2_with (at_builtin; refine wpList_append_lies _ rfl _ _ _ rfl n₁ 36 i0 _ 1 16 Yba.underlying62 hi0 hz0 hz1 hz2 rfl (by omega) (.slice fo len fc) len (F.map fun k => Value.string (idB k)) rfl ?c1 ⟨w'.heap.size, 0, none⟩ 1 1 [.string X] rfl rfl ?c2 ?c3 (by omega) ?c4 ?c5 ?c6 (w'.heap.size + 1) ?c7 ?_)
        case c1 =>
          have hr := HRF.out
          rw [show fv = _ from HFV.out, show F.length = len from HLN.out] at hr
          exact World.ownsRow.alloc hr _
        case c2 => exact World.news_of_block (cs := #[.string X]) (t := 36) (fr := (0, 0)) (heap_alloc_new w' _)
        case c3 => simp [Value.oneCell']
        case c4 => unfold maxLen; omega
        case c5 => omega
        case c6 => simp; omega
        case c7 => simp
        intro g cap w1 hown hgrow hat hlt
        have hfv' : fv = .slice fo len fc := by rw [show fv = _ from HFV.out, show F.length = len from HLN.out]
        rw [hfv'] at hpf hps
        have e4 : w1.cell? ⟨pf, 0, none⟩ = some (.slice fo len fc) := (hgrow.cell_far _ (by simp; omega) (Ne.symm hpf)).trans ((World.cell?_of_block (w := w') (w' := w'.alloc _) (a := ⟨pf, 0, none⟩) (Below.heap_alloc w' _ pf lpf)).trans c4)
        have e5 : w1.cell? ⟨ps, 0, none⟩ = some (.int .i64 s) := (hgrow.cell_far _ (by simp; omega) (Ne.symm hps)).trans ((World.cell?_of_block (w := w') (w' := w'.alloc _) (a := ⟨ps, 0, none⟩) (Below.heap_alloc w' _ ps lps)).trans c5)
        have g4 : w1.frozen? ⟨pf, 0, none⟩ = false := (hgrow.frozen_far _ (by simp; omega) (Ne.symm hpf)).trans ((World.frozen?_of_block (w := w') (w' := w'.alloc _) (a := ⟨pf, 0, none⟩) (Below.heap_alloc w' _ pf lpf)).trans f4)
        have hlen1 : (len : Int) + 1 ≤ 1001 := by omega
        go_wp2_with fail
        go_ret
        have H4' : w'.heap[pf]? = some (.cells #[fv] 62 (0, 0)) := H4.out
        have hblk : w1.heap[pf]? = some (.cells #[fv] 62 (0, 0)) := (hgrow.block pf (by simp; omega) (Ne.symm hpf)).trans ((Below.heap_alloc w' _ pf lpf).trans H4')
        have hgpf : g ≠ pf := by
          rcases hat with h | h
          · intro e; exact hpf (by rw [h, e])
          · omega
        refine ⟨?_, .slice (some ⟨g, 0, none⟩) (len + 1) cap, ?_, ?_, ?_⟩
        · show Ending.returned (Value.bool (decide (s ≤ (len : Int) + 1))) = _
          simp [show F.length = len from HLN.out]
        · have := blk_setCell_row hblk 0 (.slice (some ⟨g, 0, none⟩) (len + 1) cap)
          simpa using this
        · refine row_other (W := w1) ?_ (fun g' hg' => ?_)
          · have e1 : (F ++ [k]).length = len + 1 := by simp [show F.length = len from HLN.out]
            rw [e1]
            simpa [show idB k = X from HX.out] using hown
          · cases hg'; exact Below.heap_setCell _ _ _ _ hgpf
        · refine ⟨hgrow.os, hgrow.tape, hgrow.output, ?_, fun b hb hpb => ?_⟩
          · have := hgrow.size
            simp [World.setCell] at this ⊢
            omega
          · rw [Below.heap_setCell _ _ _ _ (fun e => hpb (.inl e)), hgrow.block b (by simp; omega) (fun e => hpb (.inr e.symm)), Below.heap_alloc _ _ _ hb]
end Go.Proofs.Ybulkckim
