import Derived.Test.YbulkckhyFmtBuilds
import Derived.Deep.QuietTactic
import Derived.BigQuiet
namespace Go.Proofs.YbulkckhyFmt
open Go.RowKit Go.Extern.Stop Go.Stop Go.Extern
open Go.ChangeMaps (setBlock)

theorem Mid.objAt {w w1 : World} {path : ByteArray} {nv : Value} {n : Nat} {xs : List Value} {es : Array MapEntry} {c : Nat} (h : Mid w w1 path nv n xs es c) :
    ObjAt (w1.alloc (.cells #[.pointer none] 27)) (w.heap.size + 2) w.heap.size (w.heap.size + 1) w1.heap.size path es c := by
  have ha := h.alloc (.cells #[.pointer none] 27)
  refine ⟨by simp [World.cell?, ha.obj], by simp [World.cell?, ha.obj], by simp [World.cell?, ha.obj], ha.mem, ha.tak, ?_, ?_⟩
  · rw [World.cell?_alloc_at _ _ _ _ rfl]; rfl
  · exact World.frozen?_alloc_at _ _ _ _ rfl

theorem len_took {w : World} {b : Nat} {name : ByteArray} (hb : w.heap[b]? = some (took name)) : (Builtin.len_ #[31] 3 #[.map (some b)]).run Ybaf.prog w = .ok (.int .i64 1) w := by
  unfold took at hb
  simp [Builtin.len_, run_underlying Ybaf.underlying31, MapKept.run_getObj_map hb, goInt, Result.andThen]

set_option maxHeartbeats 800000 in
theorem law0 (F : Interp) (path name other sval : ByteArray) (kind : Int) (w : World) (hF : F.answers w.tape) (h0 : 0 ≤ kind) (h1 : kind ≤ 255) (hk : kind % 7 = 0)
    (hp : path.size ≤ 140737488351232) (hn : name.size ≤ 140737488351232) :
    Calls Ybaf.prog 3 #[.string path, .string name, .string other, .int .u8 kind, .string sval] w fun e w' => e = .returned (.bool true) ∧ Below w.heap.size w w' := by
  go_enter Ybaf.func3, Ybaf.ntmps3
  go_wp2_with fail
  refine (build0 path name other sval w).mono ?_
  rintro e w1 ⟨rfl, nv, n, xs, es, c, hM, hD⟩
  obtain hf : Instr.findNow .string (.string name) es.toList 0 = some none := by
    rcases hD with ⟨_, h⟩ | ⟨_, _, _, h⟩
    · exact h
    · simp [IsVal] at h
  have hO := hM.objAt
  have hsz := hM.size
  have ht := text_missing F w.heap.size _ _ _ _ path name es c _ (show F.answers (w1.alloc _).tape by show F.answers w1.tape; rw [hM.below.tape]; exact hF) hO (by omega) (by omega) (by simp; omega) hp hn hf
  have HB := hide_it hM.below
  clear hD hf hO hM
  go_wp2_with fail
  refine ht.mono ?_
  rintro e w2 ⟨rfl, hT⟩
  obtain ⟨X, hx1, hx2⟩ := hT.err rfl
  have hc3 := hT.c3
  have hlk := lookup_at w2 31 9 4 (w.heap.size + 1) #[{ key := .string name, val := .bool true, born := 0 }] 1 name 0 (.bool true) false Ybaf.underlying31 Ybaf.underlying9 hT.tak (findNow_push_eq (es := #[]) (c := 0) rfl)
  simp only [Bool.false_eq_true, if_false] at hlk
  have hln := len_took hT.tak
  have HT := hide_it hT.below
  clear hT ht
  go_wp2_with fail
  go_quiet ((go_at_call 7; exact Calls.quiet_of_same (zzjoin_any _ _ _ hp hn)))
  go_wp2_with fail
  go_ret
  exact ⟨rfl, below_drewN ((HB.out.alloc HB.out.size _).trans HT.out) _⟩

set_option maxHeartbeats 800000 in
theorem law1e (F : Interp) (path name other sval : ByteArray) (kind : Int) (w : World) (hF : F.answers w.tape) (h0 : 0 ≤ kind) (h1 : kind ≤ 255) (hk : kind % 7 = 1)
    (hp : path.size ≤ 140737488351232) (hn : name.size ≤ 140737488351232) (hs : sval.toList.isEmpty = true) :
    Calls Ybaf.prog 3 #[.string path, .string name, .string other, .int .u8 kind, .string sval] w fun e w' => e = .returned (.bool true) ∧ Below w.heap.size w w' := by
  go_enter Ybaf.func3, Ybaf.ntmps3
  go_wp2_with fail
  refine (build1 path name other sval w).mono ?_
  rintro e w1 ⟨rfl, nv, n, xs, es, c, hM, hD⟩
  obtain ⟨i, hf⟩ : ∃ i, Instr.findNow .string (.string name) es.toList 0 = some (some (i, .iface 9 (.string sval))) := by
    rcases hD with ⟨h, _⟩ | ⟨i, v, h, hv⟩
    · cases h
    · simp [IsVal] at hv
      subst hv
      exact ⟨i, h⟩
  have hO := hM.objAt
  have hsz := hM.size
  have ht := text_empty F w.heap.size _ _ _ _ path name es c _ (show F.answers (w1.alloc _).tape by show F.answers w1.tape; rw [hM.below.tape]; exact hF) hO (by omega) (by omega) (by simp; omega) hp hn i sval hs hf
  have HB := hide_it hM.below
  clear hD hf hO hM
  go_wp2_with fail
  refine ht.mono ?_
  rintro e w2 ⟨rfl, hT⟩
  obtain ⟨X, hx1, hx2⟩ := hT.err rfl
  have hc3 := hT.c3
  have hlk := lookup_at w2 31 9 4 (w.heap.size + 1) #[{ key := .string name, val := .bool true, born := 0 }] 1 name 0 (.bool true) false Ybaf.underlying31 Ybaf.underlying9 hT.tak (findNow_push_eq (es := #[]) (c := 0) rfl)
  simp only [Bool.false_eq_true, if_false] at hlk
  have hln := len_took hT.tak
  have HT := hide_it hT.below
  clear hT ht
  go_wp2_with fail
  go_quiet ((go_at_call 7; exact Calls.quiet_of_same (zzjoin_any _ _ _ hp hn)))
  go_wp2_with fail
  go_ret
  exact ⟨rfl, below_drewN ((HB.out.alloc HB.out.size _).trans HT.out) _⟩

set_option maxHeartbeats 800000 in
theorem law1f (F : Interp) (path name other sval : ByteArray) (kind : Int) (w : World) (_hF : F.answers w.tape) (h0 : 0 ≤ kind) (h1 : kind ≤ 255) (hk : kind % 7 = 1)
    (hp : path.size ≤ 140737488351232) (hn : name.size ≤ 140737488351232) (hs : sval.toList.isEmpty = false) :
    Calls Ybaf.prog 3 #[.string path, .string name, .string other, .int .u8 kind, .string sval] w fun e w' => e = .returned (.bool true) ∧ Below w.heap.size w w' := by
  go_enter Ybaf.func3, Ybaf.ntmps3
  go_wp2_with fail
  refine (build1 path name other sval w).mono ?_
  rintro e w1 ⟨rfl, nv, n, xs, es, c, hM, hD⟩
  obtain ⟨i, hf⟩ : ∃ i, Instr.findNow .string (.string name) es.toList 0 = some (some (i, .iface 9 (.string sval))) := by
    rcases hD with ⟨h, _⟩ | ⟨i, v, h, hv⟩
    · cases h
    · simp [IsVal] at hv
      subst hv
      exact ⟨i, h⟩
  have hO := hM.objAt
  have hsz := hM.size
  have ht := text_fine w.heap.size _ _ _ _ path name es c _ hO (by omega) hp hn i sval hs hf
  have HB := hide_it hM.below
  clear hD hf hO hM
  go_wp2_with fail
  refine ht.mono ?_
  rintro e w2 ⟨rfl, hT⟩
  have hx1 := hT.kept rfl
  have hc3 := hT.c3
  have hlk := lookup_at w2 31 9 4 (w.heap.size + 1) #[{ key := .string name, val := .bool true, born := 0 }] 1 name 0 (.bool true) false Ybaf.underlying31 Ybaf.underlying9 hT.tak (findNow_push_eq (es := #[]) (c := 0) rfl)
  simp only [Bool.false_eq_true, if_false] at hlk
  have hln := len_took hT.tak
  have HT := hide_it hT.below
  clear hT ht
  go_wp2_with fail
  go_ret
  exact ⟨rfl, (HB.out.alloc HB.out.size _).trans HT.out⟩

set_option maxHeartbeats 800000 in
theorem law2 (F : Interp) (path name other sval : ByteArray) (kind : Int) (w : World) (hF : F.answers w.tape) (h0 : 0 ≤ kind) (h1 : kind ≤ 255) (hk : kind % 7 = 2)
    (hp : path.size ≤ 140737488351232) (hn : name.size ≤ 140737488351232) :
    Calls Ybaf.prog 3 #[.string path, .string name, .string other, .int .u8 kind, .string sval] w fun e w' => e = .returned (.bool true) ∧ Below w.heap.size w w' := by
  go_enter Ybaf.func3, Ybaf.ntmps3
  go_wp2_with fail
  refine (build2 path name other sval w).mono ?_
  rintro e w1 ⟨rfl, nv, n, xs, es, c, hM, hD⟩
  obtain ⟨i, hf⟩ : ∃ i, Instr.findNow .string (.string name) es.toList 0 = some (some (i, .iface 39 (.string sval))) := by
    rcases hD with ⟨h, _⟩ | ⟨i, v, h, hv⟩
    · cases h
    · simp [IsVal] at hv
      subst hv
      exact ⟨i, h⟩
  have hO := hM.objAt
  have hsz := hM.size
  have ht := text_other F w.heap.size _ _ _ _ path name es c _ (show F.answers (w1.alloc _).tape by show F.answers w1.tape; rw [hM.below.tape]; exact hF) hO (by omega) (by omega) (by simp; omega) hp hn i _ (fun w => ta39_9 _ w) (fun w => describe_num _ w) hf
  have HB := hide_it hM.below
  clear hD hf hO hM
  go_wp2_with fail
  refine ht.mono ?_
  rintro e w2 ⟨rfl, hT⟩
  obtain ⟨X, hx1, hx2⟩ := hT.err rfl
  have hc3 := hT.c3
  have hlk := lookup_at w2 31 9 4 (w.heap.size + 1) #[{ key := .string name, val := .bool true, born := 0 }] 1 name 0 (.bool true) false Ybaf.underlying31 Ybaf.underlying9 hT.tak (findNow_push_eq (es := #[]) (c := 0) rfl)
  simp only [Bool.false_eq_true, if_false] at hlk
  have hln := len_took hT.tak
  have HT := hide_it hT.below
  clear hT ht
  go_wp2_with fail
  go_quiet ((go_at_call 7; exact Calls.quiet_of_same (zzjoin_any _ _ _ hp hn)))
  go_wp2_with fail
  go_ret
  exact ⟨rfl, below_drewN ((HB.out.alloc HB.out.size _).trans HT.out) _⟩

set_option maxHeartbeats 800000 in
theorem law3 (F : Interp) (path name other sval : ByteArray) (kind : Int) (w : World) (hF : F.answers w.tape) (h0 : 0 ≤ kind) (h1 : kind ≤ 255) (hk : kind % 7 = 3)
    (hp : path.size ≤ 140737488351232) (hn : name.size ≤ 140737488351232) :
    Calls Ybaf.prog 3 #[.string path, .string name, .string other, .int .u8 kind, .string sval] w fun e w' => e = .returned (.bool true) ∧ Below w.heap.size w w' := by
  go_enter Ybaf.func3, Ybaf.ntmps3
  go_wp2_with fail
  refine (build3 path name other sval w).mono ?_
  rintro e w1 ⟨rfl, nv, n, xs, es, c, hM, hD⟩
  obtain ⟨i, hf⟩ : ∃ i, Instr.findNow .string (.string name) es.toList 0 = some (some (i, .iface 4 (.bool true))) := by
    rcases hD with ⟨h, _⟩ | ⟨i, v, h, hv⟩
    · cases h
    · simp [IsVal] at hv
      subst hv
      exact ⟨i, h⟩
  have hO := hM.objAt
  have hsz := hM.size
  have ht := text_other F w.heap.size _ _ _ _ path name es c _ (show F.answers (w1.alloc _).tape by show F.answers w1.tape; rw [hM.below.tape]; exact hF) hO (by omega) (by omega) (by simp; omega) hp hn i _ (fun w => ta4_9 _ w) (fun w => describe_bool _ w) hf
  have HB := hide_it hM.below
  clear hD hf hO hM
  go_wp2_with fail
  refine ht.mono ?_
  rintro e w2 ⟨rfl, hT⟩
  obtain ⟨X, hx1, hx2⟩ := hT.err rfl
  have hc3 := hT.c3
  have hlk := lookup_at w2 31 9 4 (w.heap.size + 1) #[{ key := .string name, val := .bool true, born := 0 }] 1 name 0 (.bool true) false Ybaf.underlying31 Ybaf.underlying9 hT.tak (findNow_push_eq (es := #[]) (c := 0) rfl)
  simp only [Bool.false_eq_true, if_false] at hlk
  have hln := len_took hT.tak
  have HT := hide_it hT.below
  clear hT ht
  go_wp2_with fail
  go_quiet ((go_at_call 7; exact Calls.quiet_of_same (zzjoin_any _ _ _ hp hn)))
  go_wp2_with fail
  go_ret
  exact ⟨rfl, below_drewN ((HB.out.alloc HB.out.size _).trans HT.out) _⟩

set_option maxHeartbeats 800000 in
theorem law4 (F : Interp) (path name other sval : ByteArray) (kind : Int) (w : World) (hF : F.answers w.tape) (h0 : 0 ≤ kind) (h1 : kind ≤ 255) (hk : kind % 7 = 4)
    (hp : path.size ≤ 140737488351232) (hn : name.size ≤ 140737488351232) :
    Calls Ybaf.prog 3 #[.string path, .string name, .string other, .int .u8 kind, .string sval] w fun e w' => e = .returned (.bool true) ∧ Below w.heap.size w w' := by
  go_enter Ybaf.func3, Ybaf.ntmps3
  go_wp2_with fail
  refine (build4 path name other sval w).mono ?_
  rintro e w1 ⟨rfl, nv, n, xs, es, c, hM, hD⟩
  obtain ⟨i, hf⟩ : ∃ i, Instr.findNow .string (.string name) es.toList 0 = some (some (i, .nilIface)) := by
    rcases hD with ⟨h, _⟩ | ⟨i, v, h, hv⟩
    · cases h
    · simp [IsVal] at hv
      subst hv
      exact ⟨i, h⟩
  have hO := hM.objAt
  have hsz := hM.size
  have ht := text_other F w.heap.size _ _ _ _ path name es c _ (show F.answers (w1.alloc _).tape by show F.answers w1.tape; rw [hM.below.tape]; exact hF) hO (by omega) (by omega) (by simp; omega) hp hn i _ (fun w => ta0_9 w) (fun w => describe_nil w) hf
  have HB := hide_it hM.below
  clear hD hf hO hM
  go_wp2_with fail
  refine ht.mono ?_
  rintro e w2 ⟨rfl, hT⟩
  obtain ⟨X, hx1, hx2⟩ := hT.err rfl
  have hc3 := hT.c3
  have hlk := lookup_at w2 31 9 4 (w.heap.size + 1) #[{ key := .string name, val := .bool true, born := 0 }] 1 name 0 (.bool true) false Ybaf.underlying31 Ybaf.underlying9 hT.tak (findNow_push_eq (es := #[]) (c := 0) rfl)
  simp only [Bool.false_eq_true, if_false] at hlk
  have hln := len_took hT.tak
  have HT := hide_it hT.below
  clear hT ht
  go_wp2_with fail
  go_quiet ((go_at_call 7; exact Calls.quiet_of_same (zzjoin_any _ _ _ hp hn)))
  go_wp2_with fail
  go_ret
  exact ⟨rfl, below_drewN ((HB.out.alloc HB.out.size _).trans HT.out) _⟩

set_option maxHeartbeats 800000 in
theorem law5 (F : Interp) (path name other sval : ByteArray) (kind : Int) (w : World) (hF : F.answers w.tape) (h0 : 0 ≤ kind) (h1 : kind ≤ 255) (hk : kind % 7 = 5)
    (hp : path.size ≤ 140737488351232) (hn : name.size ≤ 140737488351232) :
    Calls Ybaf.prog 3 #[.string path, .string name, .string other, .int .u8 kind, .string sval] w fun e w' => e = .returned (.bool true) ∧ Below w.heap.size w w' := by
  go_enter Ybaf.func3, Ybaf.ntmps3
  go_wp2_with fail
  refine (build5 path name other sval w).mono ?_
  rintro e w1 ⟨rfl, nv, n, xs, es, c, hM, hD⟩
  obtain ⟨i, a, hf⟩ : ∃ i, ∃ a, Instr.findNow .string (.string name) es.toList 0 = some (some (i, .iface 22 (.pointer (some a)))) := by
    rcases hD with ⟨h, _⟩ | ⟨i, v, h, hv⟩
    · cases h
    · simp [IsVal] at hv
      obtain ⟨a, rfl⟩ := hv
      exact ⟨i, a, h⟩
  have hO := hM.objAt
  have hsz := hM.size
  have ht := text_other F w.heap.size _ _ _ _ path name es c _ (show F.answers (w1.alloc _).tape by show F.answers w1.tape; rw [hM.below.tape]; exact hF) hO (by omega) (by omega) (by simp; omega) hp hn i _ (fun w => ta22_9 _ w) (fun w => describe_obj _ w) hf
  have HB := hide_it hM.below
  clear hD hf hO hM
  go_wp2_with fail
  refine ht.mono ?_
  rintro e w2 ⟨rfl, hT⟩
  obtain ⟨X, hx1, hx2⟩ := hT.err rfl
  have hc3 := hT.c3
  have hlk := lookup_at w2 31 9 4 (w.heap.size + 1) #[{ key := .string name, val := .bool true, born := 0 }] 1 name 0 (.bool true) false Ybaf.underlying31 Ybaf.underlying9 hT.tak (findNow_push_eq (es := #[]) (c := 0) rfl)
  simp only [Bool.false_eq_true, if_false] at hlk
  have hln := len_took hT.tak
  have HT := hide_it hT.below
  clear hT ht
  go_wp2_with fail
  go_quiet ((go_at_call 7; exact Calls.quiet_of_same (zzjoin_any _ _ _ hp hn)))
  go_wp2_with fail
  go_ret
  exact ⟨rfl, below_drewN ((HB.out.alloc HB.out.size _).trans HT.out) _⟩

set_option maxHeartbeats 800000 in
theorem law6 (F : Interp) (path name other sval : ByteArray) (kind : Int) (w : World) (hF : F.answers w.tape) (h0 : 0 ≤ kind) (h1 : kind ≤ 255) (hk : kind % 7 = 6)
    (hp : path.size ≤ 140737488351232) (hn : name.size ≤ 140737488351232) :
    Calls Ybaf.prog 3 #[.string path, .string name, .string other, .int .u8 kind, .string sval] w fun e w' => e = .returned (.bool true) ∧ Below w.heap.size w w' := by
  go_enter Ybaf.func3, Ybaf.ntmps3
  go_wp2_with fail
  refine (build6 path name other sval w).mono ?_
  rintro e w1 ⟨rfl, nv, n, xs, es, c, hM, hD⟩
  obtain ⟨i, a, m, cc, hf⟩ : ∃ i, ∃ a m cc, Instr.findNow .string (.string name) es.toList 0 = some (some (i, .iface 40 (.slice a m cc))) := by
    rcases hD with ⟨h, _⟩ | ⟨i, v, h, hv⟩
    · cases h
    · simp [IsVal] at hv
      obtain ⟨a, m, cc, rfl⟩ := hv
      exact ⟨i, a, m, cc, h⟩
  have hO := hM.objAt
  have hsz := hM.size
  have ht := text_other F w.heap.size _ _ _ _ path name es c _ (show F.answers (w1.alloc _).tape by show F.answers w1.tape; rw [hM.below.tape]; exact hF) hO (by omega) (by omega) (by simp; omega) hp hn i _ (fun w => ta40_9 _ w) (fun w => describe_list _ _ _ w) hf
  have HB := hide_it hM.below
  clear hD hf hO hM
  go_wp2_with fail
  refine ht.mono ?_
  rintro e w2 ⟨rfl, hT⟩
  obtain ⟨X, hx1, hx2⟩ := hT.err rfl
  have hc3 := hT.c3
  have hlk := lookup_at w2 31 9 4 (w.heap.size + 1) #[{ key := .string name, val := .bool true, born := 0 }] 1 name 0 (.bool true) false Ybaf.underlying31 Ybaf.underlying9 hT.tak (findNow_push_eq (es := #[]) (c := 0) rfl)
  simp only [Bool.false_eq_true, if_false] at hlk
  have hln := len_took hT.tak
  have HT := hide_it hT.below
  clear hT ht
  go_wp2_with fail
  go_quiet ((go_at_call 7; exact Calls.quiet_of_same (zzjoin_any _ _ _ hp hn)))
  go_wp2_with fail
  go_ret
  exact ⟨rfl, below_drewN ((HB.out.alloc HB.out.size _).trans HT.out) _⟩

end Go.Proofs.YbulkckhyFmt
