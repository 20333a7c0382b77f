import Derived.Test.YbulkckhyFmtBuild
namespace Go.Proofs.YbulkckhyFmt
open Go.RowKit Go.Extern.Stop Go.Stop Go.Extern
open Go.ChangeMaps (setBlock)

set_option maxHeartbeats 1600000 in
theorem build1 (path name other sval : ByteArray) (w : World) :
    Calls Ybaf.prog 5 #[.string path, .string name, .string other, .int .i64 1, .string sval] w fun e w' => e = .returned (.pointer (some ⟨w.heap.size + 2, 0, none⟩)) ∧ Built w w' path name sval 1 := by
  obtain ⟨i0, hi, hz0, hz1, hz2⟩ := info_parts info9
  have hmm := @run_makeMap Ybaf.prog
  go_enter Ybaf.func5, Ybaf.ntmps5
  go_upto_region 2 with fail
  have hM := Mid.start w path
  unfold startW at hM
  generalize (((w.alloc (.map #[] 0)).alloc (.map #[] 0)).alloc (.cells #[.string path, .slice none 0 0, .map (some w.heap.size), .map (some (w.heap.size + 1))] 33)) = wm at hM ⊢
  obtain ⟨es, c, hM, HF⟩ : ∃ es c, Mid w wm path (.slice none 0 0) 0 [] es c ∧ Hid (∀ s, Instr.findNow .string (.string s) es.toList 0 = some none) := ⟨_, _, hM, fun _ => rfl⟩
  rcases Bool.eq_false_or_eq_true (other.toList == name.toList) with hne | hne
  case' inl =>
    obtain ⟨nv, n, xs, es, c, hn1, hM, HG⟩ : ∃ nv n xs es c, n ≤ 1 ∧ Mid w wm path nv n xs es c ∧ Hid (Instr.findNow .string (.string name) es.toList 0 = some none) := ⟨_, _, _, _, _, Nat.zero_le _, hM, HF.out name⟩
    go_upto_region 5 with fail
  case' inr =>
    have hsz := hM.size
    have q1 : wm.cell? ⟨w.heap.size + 2, 1, none⟩ = some (.slice none 0 0) := by simp [World.cell?, hM.obj]
    go_wp2_with (at_builtin; refine wpList_append_own _ rfl (.tmp 25) (.tmp 27) 29 rfl (w.heap.size + 3) 9 i0 (.string ⟨#[]⟩) 1 16 Ybaf.underlying29 hi hz0 hz1 hz2 rfl (by decide) _ _ _ rfl (hM.own.alloc _) ⟨wm.heap.size, 0, none⟩ 1 1 [.string other] rfl rfl ?c1 ?c2 ?c3 ?c4 ?c5 ?_)
    case c1 => exact cell_one_new _ _ _
    case c2 => intro u hu; simp at hu; subst hu; rfl
    case c3 => unfold maxLen; omega
    case c4 => omega
    case c5 => simp; omega
    intro v' w1 hown hgrow _
    obtain ⟨g, cap, rfl⟩ := owned_shape hown
    obtain ⟨s1, s2, s3, s4⟩ := hM.facts _ hgrow (.slice (some ⟨g, 0, none⟩) (0 + 1) cap) other (HF.out other)
    have HB := hide_it (hM.stepped _ hgrow _ other (.iface 9 (.string ⟨#[120]⟩)) hown)
    have HG := hide_it (findNow_push_ne (c := c) (x := .iface 9 (.string ⟨#[120]⟩)) (HF.out name) hne)
    clear hM hgrow hown q1 hsz
    go_upto_region 5 with fail
    have hM := HB.out
    generalize steppedW w1 w.heap.size (.slice (some ⟨g, 0, none⟩) (0 + 1) cap) es c other (.iface 9 (.string ⟨#[120]⟩)) = wm at hM ⊢
    obtain ⟨nv, n, xs, es, c, hn1, hM, HG⟩ : ∃ nv n xs es c, n ≤ 1 ∧ Mid w wm path nv n xs es c ∧ Hid (Instr.findNow .string (.string name) es.toList 0 = some none) := ⟨_, _, _, _, _, Nat.le_refl _, hM, HG⟩
    clear HB s1 s2 s3 s4
  all_goals
    go_upto_region 19 with fail
    have hsz := hM.size
    have q1 : wm.cell? ⟨w.heap.size + 2, 1, none⟩ = some (nv) := by simp [World.cell?, hM.obj]
    go_wp2_with (at_builtin; refine wpList_append_own _ rfl (.tmp 68) (.tmp 70) 29 rfl (w.heap.size + 3) 9 i0 (.string ⟨#[]⟩) 1 16 Ybaf.underlying29 hi hz0 hz1 hz2 rfl (by decide) _ _ _ rfl (hM.own.alloc _) ⟨wm.heap.size, 0, none⟩ 1 1 [.string name] rfl rfl ?c1 ?c2 ?c3 ?c4 ?c5 ?_)
    case c1 => exact cell_one_new _ _ _
    case c2 => intro u hu; simp at hu; subst hu; rfl
    case c3 => unfold maxLen; omega
    case c4 => omega
    case c5 => simp; omega
    intro v' w1 hown hgrow _
    obtain ⟨g, cap, rfl⟩ := owned_shape hown
    obtain ⟨s1, s2, s3, s4⟩ := hM.facts _ hgrow (.slice (some ⟨g, 0, none⟩) (n + 1) cap) name HG.out
    have HB := hide_it (fun x => hM.stepped _ hgrow _ name x hown)
    have HH := hide_it (fun x => findNow_push_eq (c := c) (x := x) HG.out)
    clear hM hgrow hown q1 hmm
    go_wp2_with fail
    go_ret
    exact ⟨rfl, _, _, _, _, _, HB.out _, .inr ⟨_, _, HH.out _, .inl ⟨rfl, rfl⟩⟩⟩

set_option maxHeartbeats 1600000 in
theorem build2 (path name other sval : ByteArray) (w : World) :
    Calls Ybaf.prog 5 #[.string path, .string name, .string other, .int .i64 2, .string sval] w fun e w' => e = .returned (.pointer (some ⟨w.heap.size + 2, 0, none⟩)) ∧ Built w w' path name sval 2 := by
  obtain ⟨i0, hi, hz0, hz1, hz2⟩ := info_parts info9
  have hmm := @run_makeMap Ybaf.prog
  go_enter Ybaf.func5, Ybaf.ntmps5
  go_upto_region 2 with fail
  have hM := Mid.start w path
  unfold startW at hM
  generalize (((w.alloc (.map #[] 0)).alloc (.map #[] 0)).alloc (.cells #[.string path, .slice none 0 0, .map (some w.heap.size), .map (some (w.heap.size + 1))] 33)) = wm at hM ⊢
  obtain ⟨es, c, hM, HF⟩ : ∃ es c, Mid w wm path (.slice none 0 0) 0 [] es c ∧ Hid (∀ s, Instr.findNow .string (.string s) es.toList 0 = some none) := ⟨_, _, hM, fun _ => rfl⟩
  rcases Bool.eq_false_or_eq_true (other.toList == name.toList) with hne | hne
  case' inl =>
    obtain ⟨nv, n, xs, es, c, hn1, hM, HG⟩ : ∃ nv n xs es c, n ≤ 1 ∧ Mid w wm path nv n xs es c ∧ Hid (Instr.findNow .string (.string name) es.toList 0 = some none) := ⟨_, _, _, _, _, Nat.zero_le _, hM, HF.out name⟩
    go_upto_region 5 with fail
  case' inr =>
    have hsz := hM.size
    have q1 : wm.cell? ⟨w.heap.size + 2, 1, none⟩ = some (.slice none 0 0) := by simp [World.cell?, hM.obj]
    go_wp2_with (at_builtin; refine wpList_append_own _ rfl (.tmp 25) (.tmp 27) 29 rfl (w.heap.size + 3) 9 i0 (.string ⟨#[]⟩) 1 16 Ybaf.underlying29 hi hz0 hz1 hz2 rfl (by decide) _ _ _ rfl (hM.own.alloc _) ⟨wm.heap.size, 0, none⟩ 1 1 [.string other] rfl rfl ?c1 ?c2 ?c3 ?c4 ?c5 ?_)
    case c1 => exact cell_one_new _ _ _
    case c2 => intro u hu; simp at hu; subst hu; rfl
    case c3 => unfold maxLen; omega
    case c4 => omega
    case c5 => simp; omega
    intro v' w1 hown hgrow _
    obtain ⟨g, cap, rfl⟩ := owned_shape hown
    obtain ⟨s1, s2, s3, s4⟩ := hM.facts _ hgrow (.slice (some ⟨g, 0, none⟩) (0 + 1) cap) other (HF.out other)
    have HB := hide_it (hM.stepped _ hgrow _ other (.iface 9 (.string ⟨#[120]⟩)) hown)
    have HG := hide_it (findNow_push_ne (c := c) (x := .iface 9 (.string ⟨#[120]⟩)) (HF.out name) hne)
    clear hM hgrow hown q1 hsz
    go_upto_region 5 with fail
    have hM := HB.out
    generalize steppedW w1 w.heap.size (.slice (some ⟨g, 0, none⟩) (0 + 1) cap) es c other (.iface 9 (.string ⟨#[120]⟩)) = wm at hM ⊢
    obtain ⟨nv, n, xs, es, c, hn1, hM, HG⟩ : ∃ nv n xs es c, n ≤ 1 ∧ Mid w wm path nv n xs es c ∧ Hid (Instr.findNow .string (.string name) es.toList 0 = some none) := ⟨_, _, _, _, _, Nat.le_refl _, hM, HG⟩
    clear HB s1 s2 s3 s4
  all_goals
    go_upto_region 19 with fail
    have hsz := hM.size
    have q1 : wm.cell? ⟨w.heap.size + 2, 1, none⟩ = some (nv) := by simp [World.cell?, hM.obj]
    go_wp2_with (at_builtin; refine wpList_append_own _ rfl (.tmp 68) (.tmp 70) 29 rfl (w.heap.size + 3) 9 i0 (.string ⟨#[]⟩) 1 16 Ybaf.underlying29 hi hz0 hz1 hz2 rfl (by decide) _ _ _ rfl (hM.own.alloc _) ⟨wm.heap.size, 0, none⟩ 1 1 [.string name] rfl rfl ?c1 ?c2 ?c3 ?c4 ?c5 ?_)
    case c1 => exact cell_one_new _ _ _
    case c2 => intro u hu; simp at hu; subst hu; rfl
    case c3 => unfold maxLen; omega
    case c4 => omega
    case c5 => simp; omega
    intro v' w1 hown hgrow _
    obtain ⟨g, cap, rfl⟩ := owned_shape hown
    obtain ⟨s1, s2, s3, s4⟩ := hM.facts _ hgrow (.slice (some ⟨g, 0, none⟩) (n + 1) cap) name HG.out
    have HB := hide_it (fun x => hM.stepped _ hgrow _ name x hown)
    have HH := hide_it (fun x => findNow_push_eq (c := c) (x := x) HG.out)
    clear hM hgrow hown q1 hmm
    go_wp2_with fail
    go_ret
    exact ⟨rfl, _, _, _, _, _, HB.out _, .inr ⟨_, _, HH.out _, .inr (.inl ⟨rfl, rfl⟩)⟩⟩

set_option maxHeartbeats 1600000 in
theorem build3 (path name other sval : ByteArray) (w : World) :
    Calls Ybaf.prog 5 #[.string path, .string name, .string other, .int .i64 3, .string sval] w fun e w' => e = .returned (.pointer (some ⟨w.heap.size + 2, 0, none⟩)) ∧ Built w w' path name sval 3 := by
  obtain ⟨i0, hi, hz0, hz1, hz2⟩ := info_parts info9
  have hmm := @run_makeMap Ybaf.prog
  go_enter Ybaf.func5, Ybaf.ntmps5
  go_upto_region 2 with fail
  have hM := Mid.start w path
  unfold startW at hM
  generalize (((w.alloc (.map #[] 0)).alloc (.map #[] 0)).alloc (.cells #[.string path, .slice none 0 0, .map (some w.heap.size), .map (some (w.heap.size + 1))] 33)) = wm at hM ⊢
  obtain ⟨es, c, hM, HF⟩ : ∃ es c, Mid w wm path (.slice none 0 0) 0 [] es c ∧ Hid (∀ s, Instr.findNow .string (.string s) es.toList 0 = some none) := ⟨_, _, hM, fun _ => rfl⟩
  rcases Bool.eq_false_or_eq_true (other.toList == name.toList) with hne | hne
  case' inl =>
    obtain ⟨nv, n, xs, es, c, hn1, hM, HG⟩ : ∃ nv n xs es c, n ≤ 1 ∧ Mid w wm path nv n xs es c ∧ Hid (Instr.findNow .string (.string name) es.toList 0 = some none) := ⟨_, _, _, _, _, Nat.zero_le _, hM, HF.out name⟩
    go_upto_region 5 with fail
  case' inr =>
    have hsz := hM.size
    have q1 : wm.cell? ⟨w.heap.size + 2, 1, none⟩ = some (.slice none 0 0) := by simp [World.cell?, hM.obj]
    go_wp2_with (at_builtin; refine wpList_append_own _ rfl (.tmp 25) (.tmp 27) 29 rfl (w.heap.size + 3) 9 i0 (.string ⟨#[]⟩) 1 16 Ybaf.underlying29 hi hz0 hz1 hz2 rfl (by decide) _ _ _ rfl (hM.own.alloc _) ⟨wm.heap.size, 0, none⟩ 1 1 [.string other] rfl rfl ?c1 ?c2 ?c3 ?c4 ?c5 ?_)
    case c1 => exact cell_one_new _ _ _
    case c2 => intro u hu; simp at hu; subst hu; rfl
    case c3 => unfold maxLen; omega
    case c4 => omega
    case c5 => simp; omega
    intro v' w1 hown hgrow _
    obtain ⟨g, cap, rfl⟩ := owned_shape hown
    obtain ⟨s1, s2, s3, s4⟩ := hM.facts _ hgrow (.slice (some ⟨g, 0, none⟩) (0 + 1) cap) other (HF.out other)
    have HB := hide_it (hM.stepped _ hgrow _ other (.iface 9 (.string ⟨#[120]⟩)) hown)
    have HG := hide_it (findNow_push_ne (c := c) (x := .iface 9 (.string ⟨#[120]⟩)) (HF.out name) hne)
    clear hM hgrow hown q1 hsz
    go_upto_region 5 with fail
    have hM := HB.out
    generalize steppedW w1 w.heap.size (.slice (some ⟨g, 0, none⟩) (0 + 1) cap) es c other (.iface 9 (.string ⟨#[120]⟩)) = wm at hM ⊢
    obtain ⟨nv, n, xs, es, c, hn1, hM, HG⟩ : ∃ nv n xs es c, n ≤ 1 ∧ Mid w wm path nv n xs es c ∧ Hid (Instr.findNow .string (.string name) es.toList 0 = some none) := ⟨_, _, _, _, _, Nat.le_refl _, hM, HG⟩
    clear HB s1 s2 s3 s4
  all_goals
    go_upto_region 19 with fail
    have hsz := hM.size
    have q1 : wm.cell? ⟨w.heap.size + 2, 1, none⟩ = some (nv) := by simp [World.cell?, hM.obj]
    go_wp2_with (at_builtin; refine wpList_append_own _ rfl (.tmp 68) (.tmp 70) 29 rfl (w.heap.size + 3) 9 i0 (.string ⟨#[]⟩) 1 16 Ybaf.underlying29 hi hz0 hz1 hz2 rfl (by decide) _ _ _ rfl (hM.own.alloc _) ⟨wm.heap.size, 0, none⟩ 1 1 [.string name] rfl rfl ?c1 ?c2 ?c3 ?c4 ?c5 ?_)
    case c1 => exact cell_one_new _ _ _
    case c2 => intro u hu; simp at hu; subst hu; rfl
    case c3 => unfold maxLen; omega
    case c4 => omega
    case c5 => simp; omega
    intro v' w1 hown hgrow _
    obtain ⟨g, cap, rfl⟩ := owned_shape hown
    obtain ⟨s1, s2, s3, s4⟩ := hM.facts _ hgrow (.slice (some ⟨g, 0, none⟩) (n + 1) cap) name HG.out
    have HB := hide_it (fun x => hM.stepped _ hgrow _ name x hown)
    have HH := hide_it (fun x => findNow_push_eq (c := c) (x := x) HG.out)
    clear hM hgrow hown q1 hmm
    go_wp2_with fail
    go_ret
    exact ⟨rfl, _, _, _, _, _, HB.out _, .inr ⟨_, _, HH.out _, .inr (.inr (.inl ⟨rfl, rfl⟩))⟩⟩

set_option maxHeartbeats 1600000 in
theorem build4 (path name other sval : ByteArray) (w : World) :
    Calls Ybaf.prog 5 #[.string path, .string name, .string other, .int .i64 4, .string sval] w fun e w' => e = .returned (.pointer (some ⟨w.heap.size + 2, 0, none⟩)) ∧ Built w w' path name sval 4 := by
  obtain ⟨i0, hi, hz0, hz1, hz2⟩ := info_parts info9
  have hmm := @run_makeMap Ybaf.prog
  go_enter Ybaf.func5, Ybaf.ntmps5
  go_upto_region 2 with fail
  have hM := Mid.start w path
  unfold startW at hM
  generalize (((w.alloc (.map #[] 0)).alloc (.map #[] 0)).alloc (.cells #[.string path, .slice none 0 0, .map (some w.heap.size), .map (some (w.heap.size + 1))] 33)) = wm at hM ⊢
  obtain ⟨es, c, hM, HF⟩ : ∃ es c, Mid w wm path (.slice none 0 0) 0 [] es c ∧ Hid (∀ s, Instr.findNow .string (.string s) es.toList 0 = some none) := ⟨_, _, hM, fun _ => rfl⟩
  rcases Bool.eq_false_or_eq_true (other.toList == name.toList) with hne | hne
  case' inl =>
    obtain ⟨nv, n, xs, es, c, hn1, hM, HG⟩ : ∃ nv n xs es c, n ≤ 1 ∧ Mid w wm path nv n xs es c ∧ Hid (Instr.findNow .string (.string name) es.toList 0 = some none) := ⟨_, _, _, _, _, Nat.zero_le _, hM, HF.out name⟩
    go_upto_region 5 with fail
  case' inr =>
    have hsz := hM.size
    have q1 : wm.cell? ⟨w.heap.size + 2, 1, none⟩ = some (.slice none 0 0) := by simp [World.cell?, hM.obj]
    go_wp2_with (at_builtin; refine wpList_append_own _ rfl (.tmp 25) (.tmp 27) 29 rfl (w.heap.size + 3) 9 i0 (.string ⟨#[]⟩) 1 16 Ybaf.underlying29 hi hz0 hz1 hz2 rfl (by decide) _ _ _ rfl (hM.own.alloc _) ⟨wm.heap.size, 0, none⟩ 1 1 [.string other] rfl rfl ?c1 ?c2 ?c3 ?c4 ?c5 ?_)
    case c1 => exact cell_one_new _ _ _
    case c2 => intro u hu; simp at hu; subst hu; rfl
    case c3 => unfold maxLen; omega
    case c4 => omega
    case c5 => simp; omega
    intro v' w1 hown hgrow _
    obtain ⟨g, cap, rfl⟩ := owned_shape hown
    obtain ⟨s1, s2, s3, s4⟩ := hM.facts _ hgrow (.slice (some ⟨g, 0, none⟩) (0 + 1) cap) other (HF.out other)
    have HB := hide_it (hM.stepped _ hgrow _ other (.iface 9 (.string ⟨#[120]⟩)) hown)
    have HG := hide_it (findNow_push_ne (c := c) (x := .iface 9 (.string ⟨#[120]⟩)) (HF.out name) hne)
    clear hM hgrow hown q1 hsz
    go_upto_region 5 with fail
    have hM := HB.out
    generalize steppedW w1 w.heap.size (.slice (some ⟨g, 0, none⟩) (0 + 1) cap) es c other (.iface 9 (.string ⟨#[120]⟩)) = wm at hM ⊢
    obtain ⟨nv, n, xs, es, c, hn1, hM, HG⟩ : ∃ nv n xs es c, n ≤ 1 ∧ Mid w wm path nv n xs es c ∧ Hid (Instr.findNow .string (.string name) es.toList 0 = some none) := ⟨_, _, _, _, _, Nat.le_refl _, hM, HG⟩
    clear HB s1 s2 s3 s4
  all_goals
    go_upto_region 19 with fail
    have hsz := hM.size
    have q1 : wm.cell? ⟨w.heap.size + 2, 1, none⟩ = some (nv) := by simp [World.cell?, hM.obj]
    go_wp2_with (at_builtin; refine wpList_append_own _ rfl (.tmp 68) (.tmp 70) 29 rfl (w.heap.size + 3) 9 i0 (.string ⟨#[]⟩) 1 16 Ybaf.underlying29 hi hz0 hz1 hz2 rfl (by decide) _ _ _ rfl (hM.own.alloc _) ⟨wm.heap.size, 0, none⟩ 1 1 [.string name] rfl rfl ?c1 ?c2 ?c3 ?c4 ?c5 ?_)
    case c1 => exact cell_one_new _ _ _
    case c2 => intro u hu; simp at hu; subst hu; rfl
    case c3 => unfold maxLen; omega
    case c4 => omega
    case c5 => simp; omega
    intro v' w1 hown hgrow _
    obtain ⟨g, cap, rfl⟩ := owned_shape hown
    obtain ⟨s1, s2, s3, s4⟩ := hM.facts _ hgrow (.slice (some ⟨g, 0, none⟩) (n + 1) cap) name HG.out
    have HB := hide_it (fun x => hM.stepped _ hgrow _ name x hown)
    have HH := hide_it (fun x => findNow_push_eq (c := c) (x := x) HG.out)
    clear hM hgrow hown q1 hmm
    go_wp2_with fail
    go_ret
    exact ⟨rfl, _, _, _, _, _, HB.out _, .inr ⟨_, _, HH.out _, .inr (.inr (.inr (.inl ⟨rfl, rfl⟩)))⟩⟩

set_option maxHeartbeats 1600000 in
theorem build5 (path name other sval : ByteArray) (w : World) :
    Calls Ybaf.prog 5 #[.string path, .string name, .string other, .int .i64 5, .string sval] w fun e w' => e = .returned (.pointer (some ⟨w.heap.size + 2, 0, none⟩)) ∧ Built w w' path name sval 5 := by
  obtain ⟨i0, hi, hz0, hz1, hz2⟩ := info_parts info9
  have hmm := @run_makeMap Ybaf.prog
  go_enter Ybaf.func5, Ybaf.ntmps5
  go_upto_region 2 with fail
  have hM := Mid.start w path
  unfold startW at hM
  generalize (((w.alloc (.map #[] 0)).alloc (.map #[] 0)).alloc (.cells #[.string path, .slice none 0 0, .map (some w.heap.size), .map (some (w.heap.size + 1))] 33)) = wm at hM ⊢
  obtain ⟨es, c, hM, HF⟩ : ∃ es c, Mid w wm path (.slice none 0 0) 0 [] es c ∧ Hid (∀ s, Instr.findNow .string (.string s) es.toList 0 = some none) := ⟨_, _, hM, fun _ => rfl⟩
  rcases Bool.eq_false_or_eq_true (other.toList == name.toList) with hne | hne
  case' inl =>
    obtain ⟨nv, n, xs, es, c, hn1, hM, HG⟩ : ∃ nv n xs es c, n ≤ 1 ∧ Mid w wm path nv n xs es c ∧ Hid (Instr.findNow .string (.string name) es.toList 0 = some none) := ⟨_, _, _, _, _, Nat.zero_le _, hM, HF.out name⟩
    go_upto_region 5 with fail
  case' inr =>
    have hsz := hM.size
    have q1 : wm.cell? ⟨w.heap.size + 2, 1, none⟩ = some (.slice none 0 0) := by simp [World.cell?, hM.obj]
    go_wp2_with (at_builtin; refine wpList_append_own _ rfl (.tmp 25) (.tmp 27) 29 rfl (w.heap.size + 3) 9 i0 (.string ⟨#[]⟩) 1 16 Ybaf.underlying29 hi hz0 hz1 hz2 rfl (by decide) _ _ _ rfl (hM.own.alloc _) ⟨wm.heap.size, 0, none⟩ 1 1 [.string other] rfl rfl ?c1 ?c2 ?c3 ?c4 ?c5 ?_)
    case c1 => exact cell_one_new _ _ _
    case c2 => intro u hu; simp at hu; subst hu; rfl
    case c3 => unfold maxLen; omega
    case c4 => omega
    case c5 => simp; omega
    intro v' w1 hown hgrow _
    obtain ⟨g, cap, rfl⟩ := owned_shape hown
    obtain ⟨s1, s2, s3, s4⟩ := hM.facts _ hgrow (.slice (some ⟨g, 0, none⟩) (0 + 1) cap) other (HF.out other)
    have HB := hide_it (hM.stepped _ hgrow _ other (.iface 9 (.string ⟨#[120]⟩)) hown)
    have HG := hide_it (findNow_push_ne (c := c) (x := .iface 9 (.string ⟨#[120]⟩)) (HF.out name) hne)
    clear hM hgrow hown q1 hsz
    go_upto_region 5 with fail
    have hM := HB.out
    generalize steppedW w1 w.heap.size (.slice (some ⟨g, 0, none⟩) (0 + 1) cap) es c other (.iface 9 (.string ⟨#[120]⟩)) = wm at hM ⊢
    obtain ⟨nv, n, xs, es, c, hn1, hM, HG⟩ : ∃ nv n xs es c, n ≤ 1 ∧ Mid w wm path nv n xs es c ∧ Hid (Instr.findNow .string (.string name) es.toList 0 = some none) := ⟨_, _, _, _, _, Nat.le_refl _, hM, HG⟩
    clear HB s1 s2 s3 s4
  all_goals
    go_upto_region 19 with fail
    obtain ⟨wx, hwx⟩ : ∃ wx, wx = ((wm.alloc (.map #[] 0)).alloc (.map #[] 0)).alloc (.cells #[.string ⟨#[113]⟩, .slice none 0 0, .map (some wm.heap.size), .map (some (wm.heap.size + 1))] 33) := ⟨_, rfl⟩
    rw [← hwx]
    replace hM : Mid w wx path nv n xs es c := by rw [hwx]; exact ((hM.alloc _).alloc _).alloc _
    clear hwx
    obtain ⟨wm, rfl⟩ : ∃ wm, wm = wx := ⟨_, rfl⟩
    have hsz := hM.size
    have q1 : wm.cell? ⟨w.heap.size + 2, 1, none⟩ = some (nv) := by simp [World.cell?, hM.obj]
    go_wp2_with (at_builtin; refine wpList_append_own _ rfl (.tmp 68) (.tmp 70) 29 rfl (w.heap.size + 3) 9 i0 (.string ⟨#[]⟩) 1 16 Ybaf.underlying29 hi hz0 hz1 hz2 rfl (by decide) _ _ _ rfl (hM.own.alloc _) ⟨wm.heap.size, 0, none⟩ 1 1 [.string name] rfl rfl ?c1 ?c2 ?c3 ?c4 ?c5 ?_)
    case c1 => exact cell_one_new _ _ _
    case c2 => intro u hu; simp at hu; subst hu; rfl
    case c3 => unfold maxLen; omega
    case c4 => omega
    case c5 => simp; omega
    intro v' w1 hown hgrow _
    obtain ⟨g, cap, rfl⟩ := owned_shape hown
    obtain ⟨s1, s2, s3, s4⟩ := hM.facts _ hgrow (.slice (some ⟨g, 0, none⟩) (n + 1) cap) name HG.out
    have HB := hide_it (fun x => hM.stepped _ hgrow _ name x hown)
    have HH := hide_it (fun x => findNow_push_eq (c := c) (x := x) HG.out)
    clear hM hgrow hown q1 hmm
    go_wp2_with fail
    go_ret
    exact ⟨rfl, _, _, _, _, _, HB.out _, .inr ⟨_, _, HH.out _, .inr (.inr (.inr (.inr (.inl ⟨rfl, _, rfl⟩))))⟩⟩

set_option maxHeartbeats 1600000 in
theorem build6 (path name other sval : ByteArray) (w : World) :
    Calls Ybaf.prog 5 #[.string path, .string name, .string other, .int .i64 6, .string sval] w fun e w' => e = .returned (.pointer (some ⟨w.heap.size + 2, 0, none⟩)) ∧ Built w w' path name sval 6 := by
  obtain ⟨i0, hi, hz0, hz1, hz2⟩ := info_parts info9
  have hmm := @run_makeMap Ybaf.prog
  go_enter Ybaf.func5, Ybaf.ntmps5
  go_upto_region 2 with fail
  have hM := Mid.start w path
  unfold startW at hM
  generalize (((w.alloc (.map #[] 0)).alloc (.map #[] 0)).alloc (.cells #[.string path, .slice none 0 0, .map (some w.heap.size), .map (some (w.heap.size + 1))] 33)) = wm at hM ⊢
  obtain ⟨es, c, hM, HF⟩ : ∃ es c, Mid w wm path (.slice none 0 0) 0 [] es c ∧ Hid (∀ s, Instr.findNow .string (.string s) es.toList 0 = some none) := ⟨_, _, hM, fun _ => rfl⟩
  rcases Bool.eq_false_or_eq_true (other.toList == name.toList) with hne | hne
  case' inl =>
    obtain ⟨nv, n, xs, es, c, hn1, hM, HG⟩ : ∃ nv n xs es c, n ≤ 1 ∧ Mid w wm path nv n xs es c ∧ Hid (Instr.findNow .string (.string name) es.toList 0 = some none) := ⟨_, _, _, _, _, Nat.zero_le _, hM, HF.out name⟩
    go_upto_region 5 with fail
  case' inr =>
    have hsz := hM.size
    have q1 : wm.cell? ⟨w.heap.size + 2, 1, none⟩ = some (.slice none 0 0) := by simp [World.cell?, hM.obj]
    go_wp2_with (at_builtin; refine wpList_append_own _ rfl (.tmp 25) (.tmp 27) 29 rfl (w.heap.size + 3) 9 i0 (.string ⟨#[]⟩) 1 16 Ybaf.underlying29 hi hz0 hz1 hz2 rfl (by decide) _ _ _ rfl (hM.own.alloc _) ⟨wm.heap.size, 0, none⟩ 1 1 [.string other] rfl rfl ?c1 ?c2 ?c3 ?c4 ?c5 ?_)
    case c1 => exact cell_one_new _ _ _
    case c2 => intro u hu; simp at hu; subst hu; rfl
    case c3 => unfold maxLen; omega
    case c4 => omega
    case c5 => simp; omega
    intro v' w1 hown hgrow _
    obtain ⟨g, cap, rfl⟩ := owned_shape hown
    obtain ⟨s1, s2, s3, s4⟩ := hM.facts _ hgrow (.slice (some ⟨g, 0, none⟩) (0 + 1) cap) other (HF.out other)
    have HB := hide_it (hM.stepped _ hgrow _ other (.iface 9 (.string ⟨#[120]⟩)) hown)
    have HG := hide_it (findNow_push_ne (c := c) (x := .iface 9 (.string ⟨#[120]⟩)) (HF.out name) hne)
    clear hM hgrow hown q1 hsz
    go_upto_region 5 with fail
    have hM := HB.out
    generalize steppedW w1 w.heap.size (.slice (some ⟨g, 0, none⟩) (0 + 1) cap) es c other (.iface 9 (.string ⟨#[120]⟩)) = wm at hM ⊢
    obtain ⟨nv, n, xs, es, c, hn1, hM, HG⟩ : ∃ nv n xs es c, n ≤ 1 ∧ Mid w wm path nv n xs es c ∧ Hid (Instr.findNow .string (.string name) es.toList 0 = some none) := ⟨_, _, _, _, _, Nat.le_refl _, hM, HG⟩
    clear HB s1 s2 s3 s4
  all_goals
    go_upto_region 19 with fail
    obtain ⟨wx, hwx⟩ : ∃ wx, wx = wm.alloc (.cells #[] 20) := ⟨_, rfl⟩
    rw [← hwx]
    replace hM : Mid w wx path nv n xs es c := by rw [hwx]; exact hM.alloc _
    clear hwx
    obtain ⟨wm, rfl⟩ : ∃ wm, wm = wx := ⟨_, rfl⟩
    have hsz := hM.size
    have q1 : wm.cell? ⟨w.heap.size + 2, 1, none⟩ = some (nv) := by simp [World.cell?, hM.obj]
    go_wp2_with (at_builtin; refine wpList_append_own _ rfl (.tmp 68) (.tmp 70) 29 rfl (w.heap.size + 3) 9 i0 (.string ⟨#[]⟩) 1 16 Ybaf.underlying29 hi hz0 hz1 hz2 rfl (by decide) _ _ _ rfl (hM.own.alloc _) ⟨wm.heap.size, 0, none⟩ 1 1 [.string name] rfl rfl ?c1 ?c2 ?c3 ?c4 ?c5 ?_)
    case c1 => exact cell_one_new _ _ _
    case c2 => intro u hu; simp at hu; subst hu; rfl
    case c3 => unfold maxLen; omega
    case c4 => omega
    case c5 => simp; omega
    intro v' w1 hown hgrow _
    obtain ⟨g, cap, rfl⟩ := owned_shape hown
    obtain ⟨s1, s2, s3, s4⟩ := hM.facts _ hgrow (.slice (some ⟨g, 0, none⟩) (n + 1) cap) name HG.out
    have HB := hide_it (fun x => hM.stepped _ hgrow _ name x hown)
    have HH := hide_it (fun x => findNow_push_eq (c := c) (x := x) HG.out)
    clear hM hgrow hown q1 hmm
    go_wp2_with fail
    go_ret
    exact ⟨rfl, _, _, _, _, _, HB.out _, .inr ⟨_, _, HH.out _, .inr (.inr (.inr (.inr (.inr ⟨rfl, _, _, _, rfl⟩))))⟩⟩

end Go.Proofs.YbulkckhyFmt
