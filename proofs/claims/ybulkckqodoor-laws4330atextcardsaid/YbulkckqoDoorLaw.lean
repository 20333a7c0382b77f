import Derived.Test.YbulkckqoDoorWant
namespace Go.Proofs.YbulkckqoDoor
open Go.RowKit Go.Lib

theorem itoaA (n : Int) (A : ByteArray) (w : World) (h : -9223372036854775808 ≤ n ∧ n ≤ 9223372036854775807) (hA : A = ⟨(itoa n).toArray⟩) :
    Calls Ybad.prog 5 #[.int .i64 n] w fun e w' => e = .returned (.string A) ∧ Below w.heap.size w w' := by
  rw [hA]; exact itoa_any n w h.1 h.2

theorem built_ne {S Q : Nat → Int} {k : Nat} (h : 0 < k) : 0 < (built S Q k).length := by
  obtain ⟨j, rfl⟩ : ∃ j, k = j + 1 := ⟨k - 1, by omega⟩
  rw [built]
  simp [pair]
  omega

/-- 'string(want)'. -/
theorem Want.text {w2 wr : World} {v : Value} {bs : List UInt8} (h : Want w2 wr v bs) (h0 : 0 < bs.length) :
    ∃ g cap, v = .slice (some ⟨g, 0, none⟩) bs.length cap ∧ (convert 27 9 (.slice (some ⟨g, 0, none⟩) bs.length cap)).run Ybad.prog wr = .ok (.string ⟨bs.toArray⟩) wr := by
  rcases h.own.2 with ⟨_, hn⟩ | ⟨g, cap, cur, rfl, hg, hgg, hcap, hm, hs, htk⟩
  · omega
  · refine ⟨g, cap, rfl, ?_⟩
    rw [run_convert_bytes_string wr 27 9 5 _ _ _ Ybad.underlying27 Ybad.underlying5 Ybad.underlying9]
    have hld : (loadCells ⟨g, 0, none⟩ bs.length).run Ybad.prog wr = .ok ((bs.map fun d => (d.toNat : Int)).map (Value.int .u8)).toArray wr := by
      have hh := run_loadCells_list (P := Ybad.prog) wr ⟨g, 0, none⟩ ((bs.map fun d => (d.toNat : Int)).map (Value.int .u8)) (fun j u hj => by
        have hj' : j < bs.length := by have := (List.getElem?_eq_some_iff.1 hj).1; simpa using this
        have e2 : (byteCells bs)[j]? = some u := by
          rw [← hj, List.map_map]; rfl
        rw [← htk, Nat.mul_one, List.getElem?_take_of_lt hj'] at e2
        rw [Addr.add_lit, Nat.zero_add]
        simpa [World.cell?, hgg] using e2)
      simpa using hh
    rw [run_bytesToString wr ⟨g, 0, none⟩ bs.length cap (bs.map fun d => (d.toNat : Int)) hld, foldl_push]
    simp

theorem built_next {S Q : Nat → Int} {t : Nat} {bs : List UInt8} {A C : ByteArray} (hb : bs = built S Q t ++ (if t = 0 then [] else [44])) (hA : A = ⟨(itoa (S t)).toArray⟩) (hC : C = ⟨(itoa (Q t)).toArray⟩) :
    bs ++ A.data.toList ++ [58] ++ C.data.toList = built S Q (t + 1) := by
  rw [built, hb, hA, hC]
  simp [pair]

theorem Copy.drew {w wr : World} {n k : Nat} {S Q : Nat → Int} (h : Copy w wr n k S Q) : Copy w wr.drew n k S Q := ⟨h.below.drew, h.size, h.var, h.row⟩

theorem Copy.pairs {w wr : World} {n : Nat} {S Q : Nat → Int} (h : Copy w wr n n S Q) : Pairs wr (w.heap.size + 1) n S Q := by
  obtain ⟨cur, hb, hs, hc⟩ := h.row
  intro i hi
  simpa [World.cell?, hb] using hc i hi

set_option maxRecDepth 100000 in
set_option maxHeartbeats 1600000 in
theorem law_pos (b off n c : Nat) (w : World) (S Q : Nat → Int) (hn : n ≤ 1024) (hn0 : 0 < n)
    (hS : ∀ i, -9223372036854775808 ≤ S i ∧ S i ≤ 9223372036854775807) (hQ : ∀ i, -9223372036854775808 ≤ Q i ∧ Q i ≤ 9223372036854775807) (ht : Tab w)
    (hbw : b < w.heap.size) (h0 : ∀ i, i < n → w.cell? ⟨b, off + i * 2, none⟩ = some (.int .i64 (S i))) (h1 : ∀ i, i < n → w.cell? ⟨b, off + i * 2 + 1, none⟩ = some (.int .i64 (Q i))) :
    Calls Ybad.prog 3 #[.slice (some ⟨b, off, none⟩) n c] w fun e w' => e = .returned (.bool true) ∧ Below w.heap.size w w' := by
  have hmk := make25 n hn
  have H0 : Hid _ := h0
  have H1 : Hid _ := h1
  have HS : Hid _ := hS
  have HQ : Hid _ := hQ
  have HT : Hid _ := ht
  clear h0 h1 hS hQ ht
  go_enter Ybad.func3, Ybad.ntmps3
  go_wp2_with fail
  go_loopg [4] n (fun g i wr => ∃ k : Nat, g + k = n ∧ i = .int .i64 (k : Int) ∧ Copy w wr n k S Q)
  case atStart => exact ⟨0, rfl, rfl, Copy.start ..⟩
  case round =>
    obtain ⟨k, hk, rfl, hI⟩ := hrel
    by_cases hlt : k < n
    · have hlt' : (k : Int) < (n : Int) := by omega
      have c0 := (hI.below.cell (p := ⟨b, off + k * 2, none⟩) hbw).trans (H0.out k hlt)
      have c1 := (hI.below.cell (p := ⟨b, off + k * 2 + 1, none⟩) hbw).trans (H1.out k hlt)
      have cv : wr.cell? ⟨w.heap.size, 0, none⟩ = some (.slice (some ⟨w.heap.size + 1, 0, none⟩) n n) := by simp [World.cell?, hI.var]
      obtain ⟨⟨v0, v1, g0, g1⟩, gf⟩ := hI.cells hlt
      have HI : Hid _ := hI.step hlt
      clear hmk hI
      go_wp2_with fail
      go_region
      all_goals
        go_wp2_with fail
        go_roundg (gk - 1)
        case measure => omega
        case rel => exact ⟨k + 1, by omega, by go_num, HI.out.drew⟩
    · have hkn : k = n := by omega
      subst hkn
      have hlt' : ¬ (k : Int) < (k : Int) := by omega
      have hsz := hI.size
      clear hmk hk hlt
      have cv : wr.cell? ⟨w.heap.size, 0, none⟩ = some (.slice (some ⟨w.heap.size + 1, 0, none⟩) k k) := by simp [World.cell?, hI.var]
      have hfm := format w.heap.size (w.heap.size + 1) k wr S Q hn HS.out HQ.out cv hI.pairs (by omega) (Tab.kept HT.out hI.below (by omega))
      go_wp2_with fail
      refine hfm.mono ?_
      rintro e w2 ⟨rfl, hb2⟩
      have hB : Below w.heap.size w w2 := hI.below.trans (hb2.mono (by omega))
      have cv2 := (hb2.cell (p := ⟨w.heap.size, 0, none⟩) (by show w.heap.size < _; omega)).trans cv
      have hp2 : Pairs w2 (w.heap.size + 1) k S Q := fun i hi => ⟨(hb2.cell (p := ⟨w.heap.size + 1, _, none⟩) (by show w.heap.size + 1 < _; omega)).trans (hI.pairs i hi).1, (hb2.cell (p := ⟨w.heap.size + 1, _, none⟩) (by show w.heap.size + 1 < _; omega)).trans (hI.pairs i hi).2⟩
      have hv2 : w.heap.size + 2 ≤ w2.heap.size := by have := hb2.size; omega
      have HP : Hid _ := hp2
      have HB : Hid _ := hB
      clear hfm hI hb2 hB hp2 cv hsz
      obtain ⟨i0, hi, hz0, hz1, hz2⟩ := info_parts info5
      go_wp2_with fail
      go_loopg [6, 7] k (fun g v i wr => ∃ t : Nat, g + t = k ∧ i = .int .i64 (t : Int) ∧ Want w2 wr v (built S Q t))
      case atStart => exact ⟨0, rfl, rfl, Want.start _⟩
      case round =>
        obtain ⟨t, ht, rfl, hW⟩ := hrel
        by_cases hlt : t < k
        · have hlt2 : (t : Int) < (k : Int) := by omega
          have hbl := built_len HS.out HQ.out t
          rcases Nat.lt_or_ge 0 t with ht0 | ht0
          case' inl =>
            have ht0' : (0 : Int) < (t : Int) := by omega
            go_wp2_with (at_builtin; refine wpList_append_own _ rfl (.tmp 39) (.tmp 40) 27 rfl w2.heap.size 5 i0 (.int .u8 0) 1 1 Ybad.underlying27 hi hz0 hz1 hz2 rfl (by decide) _ _ _ rfl (hW.own.alloc _) ⟨wr.heap.size, 0, none⟩ 1 1 [.int .u8 44] rfl rfl ?c1 ?c2 ?c3 ?c4 ?c5 ?_)
            case c1 => exact cell_one_new _ _ _
            case c2 => intro u hu; simp at hu; subst hu; rfl
            case c3 => unfold maxLen; omega
            case c4 => omega
            case c5 => have := hW.below.size; simp; omega
            intro va wa ho1 hg1 _
            have hWa := hW.one _ 44 hg1 ho1
            obtain ⟨bs, hbs⟩ : ∃ bs, bs = built S Q t ++ [44] := ⟨_, rfl⟩
            rw [← hbs] at hWa
            have hlen : bs.length ≤ 44 * t + 1 := by rw [hbs]; simp; omega
            have HBS : Hid (bs = built S Q t ++ (if t = 0 then [] else [44])) := by unfold Hid; rw [if_neg (by omega)]; exact hbs
            clear hbs ho1 hg1 hW ht0'
            go_upto_region 17 with fail
          case' inr =>
            have ht0' : ¬ (0 : Int) < (t : Int) := by omega
            go_upto_region 17 with fail
            obtain ⟨wa, rfl⟩ : ∃ wa, wa = wr := ⟨_, rfl⟩
            obtain ⟨va, hva⟩ : ∃ va, va = u6 := ⟨_, rfl⟩
            subst hva
            have hWa := hW
            obtain ⟨bs, hbs⟩ : ∃ bs, bs = built S Q t ++ [] := ⟨_, rfl⟩
            rw [List.append_nil] at hbs
            rw [← hbs] at hWa
            have hlen : bs.length ≤ 44 * t + 1 := by rw [hbs]; omega
            have HBS : Hid (bs = built S Q t ++ (if t = 0 then [] else [44])) := by unfold Hid; rw [if_pos (by omega), List.append_nil]; exact hbs
            clear hbs hW ht0'
          all_goals
            have c0 := ((HB.out.trans (hWa.below.mono (by omega))).cell (p := ⟨b, off + t * 2, none⟩) hbw).trans (H0.out t hlt)
            obtain ⟨A, hA⟩ : ∃ A : ByteArray, A = ⟨(itoa (S t)).toArray⟩ := ⟨_, rfl⟩
            obtain ⟨C, hC⟩ : ∃ C : ByteArray, C = ⟨(itoa (Q t)).toArray⟩ := ⟨_, rfl⟩
            have z1 : A.size ≤ 21 := by rw [hA]; exact itoa_size (HS.out t)
            have z2 : C.size ≤ 21 := by rw [hC]; exact itoa_size (HQ.out t)
            have HA : Hid _ := hA
            have HC : Hid _ := hC
            clear hA hC hbl ht0
            go_wp2_with fail
            refine (itoaA (S t) A _ (HS.out t) HA.out).mono ?_
            rintro e wb ⟨rfl, hbb⟩
            have hWb := hWa.call hbb
            clear hWa hbb c0
            go_wp2_with (at_builtin; refine wpList_append_own_string _ rfl (.tmp 42) (.tmp 48) 27 9 rfl w2.heap.size 5 i0 Ybad.underlying27 Ybad.underlying9 hi hz0 hz1 hz2 _ _ _ rfl hWb.own A rfl ?d1 ?d2 ?d3 ?_)
            case d1 => unfold maxLen; omega
            case d2 => omega
            case d3 => exact hWb.below.size
            intro vc wc ho2 hg2 _
            have hWc := hWb.str A hg2 ho2
            have hlc : (bs ++ A.data.toList).length ≤ 44 * t + 22 := by simp; omega
            clear hWb ho2 hg2
            generalize hcs : bs ++ A.data.toList = cs at hWc hlc
            have HCS : Hid (bs ++ A.data.toList = cs) := hcs
            clear hcs
            go_wp2_with (at_builtin; refine wpList_append_own _ rfl (.tmp 50) (.tmp 51) 27 rfl w2.heap.size 5 i0 (.int .u8 0) 1 1 Ybad.underlying27 hi hz0 hz1 hz2 rfl (by decide) _ _ _ rfl (hWc.own.alloc _) ⟨wc.heap.size, 0, none⟩ 1 1 [.int .u8 58] rfl rfl ?e1 ?e2 ?e3 ?e4 ?e5 ?_)
            case e1 => exact cell_one_new _ _ _
            case e2 => intro u hu; simp at hu; subst hu; rfl
            case e3 => unfold maxLen; omega
            case e4 => omega
            case e5 => have := hWc.below.size; simp; omega
            intro vd wd ho3 hg3 _
            have hWd := hWc.one _ 58 hg3 ho3
            clear hWc ho3 hg3
            have c1 := ((HB.out.trans (hWd.below.mono (by omega))).cell (p := ⟨b, off + t * 2 + 1, none⟩) hbw).trans (H1.out t hlt)
            go_wp2_with fail
            refine (itoaA (Q t) C _ (HQ.out t) HC.out).mono ?_
            rintro e we ⟨rfl, hbe⟩
            have hWe := hWd.call hbe
            clear hWd hbe c1
            go_wp2_with (at_builtin; refine wpList_append_own_string _ rfl (.tmp 53) (.tmp 59) 27 9 rfl w2.heap.size 5 i0 Ybad.underlying27 Ybad.underlying9 hi hz0 hz1 hz2 _ _ _ rfl hWe.own C rfl ?f1 ?f2 ?f3 ?_)
            case f1 => unfold maxLen; simp; omega
            case f2 => simp; omega
            case f3 => exact hWe.below.size
            intro vf wf ho4 hg4 _
            have hWf := hWe.str C hg4 (by rw [List.length_append]; exact ho4)
            have HWF : Hid (Want w2 wf vf (built S Q (t + 1))) := by
              have e := built_next HBS.out HA.out HC.out
              rw [HCS.out] at e
              rw [← e]; exact hWf
            clear hWe hWf ho4 hg4
            go_wp2_with fail
            go_roundg (gk - 1)
            case measure => omega
            case rel => exact ⟨t + 1, by omega, by go_num, HWF.out⟩
        · have htk : t = k := by omega
          subst htk
          have hlt2 : ¬ (t : Int) < (t : Int) := by omega
          obtain ⟨g, cap, hv, hcv⟩ := hW.text (built_ne hn0)
          subst hv
          have cv3 := (hW.below.cell (p := ⟨w.heap.size, 0, none⟩) (by show w.heap.size < _; omega)).trans cv2
          have hp3 : Pairs wr (w.heap.size + 1) t S Q := fun i hi => ⟨(hW.below.cell (p := ⟨w.heap.size + 1, _, none⟩) (by show w.heap.size + 1 < _; omega)).trans (HP.out i hi).1, (hW.below.cell (p := ⟨w.heap.size + 1, _, none⟩) (by show w.heap.size + 1 < _; omega)).trans (HP.out i hi).2⟩
          have hB3 := HB.out.trans (hW.below.mono (show w.heap.size ≤ w2.heap.size by omega))
          have HP3 : Hid _ := hp3
          have HB3 : Hid _ := hB3
          clear hW hp3 hB3 ht hlt cv2
          go_wp2_with fail
          go_loopg [8] t (fun gx i wx => ∃ q u : Nat, gx + u = t ∧ i = .int .i64 (u : Int) ∧ wx = wr.drewN q)
          case atStart => exact ⟨0, 0, rfl, rfl, rfl⟩
          case round =>
            obtain ⟨q, u, hu, rfl, rfl⟩ := hrel
            by_cases hlt3 : u < t
            · have hlt3' : (u : Int) < (t : Int) := by omega
              obtain ⟨d0, d1⟩ := HP3.out u hlt3
              have d2 := (HB3.out.cell (p := ⟨b, off + u * 2, none⟩) hbw).trans (H0.out u hlt3)
              have d3 := (HB3.out.cell (p := ⟨b, off + u * 2 + 1, none⟩) hbw).trans (H1.out u hlt3)
              go_wp2_with fail
              go_quiet (fail)
              go_wp2_with fail
              go_roundg (gk - 1)
              case measure => omega
              case rel => exact ⟨_, u + 1, by omega, by go_num, rfl⟩
            · have hlt3' : ¬ (u : Int) < (t : Int) := by omega
              go_wp2_with fail
              go_ret
              exact ⟨rfl, below_drewN HB3.out _⟩
end Go.Proofs.YbulkckqoDoor
