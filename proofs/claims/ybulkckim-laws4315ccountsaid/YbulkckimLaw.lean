import Derived.Test.YbulkckimPlainL
import Derived.Deep.RegionHeld3
import Derived.Deep.CutRange
namespace Go.Proofs.Ybulkckim
open Go.RowKit Go.Shelf
open Go.ChangeMaps (setBlock)

set_option maxRecDepth 100000 in
set_option maxHeartbeats 4000000 in
theorem lawCGo (ms rs : Nat → Int) (al x en px sh : Int) (w : World) (hms : ∀ k, k < 6 → 0 ≤ ms k ∧ ms k ≤ 255) (hrs : ∀ k, k < 6 → 0 ≤ rs k ∧ rs k ≤ 255) (hal : 0 ≤ al ∧ al ≤ 255) (hx : 0 ≤ x ∧ x ≤ 255) (hen : 0 ≤ en ∧ en ≤ 255) (hpx : 0 ≤ px ∧ px ≤ 255) :
    Calls Yba.prog 4 #[.agg (inArr ms rs al x en px sh)] w fun e w' => e = .returned (.bool true) ∧ Below w.heap.size w w' := by
  refine (callsIn_wide (n := 10)).1 ?_
  refine callsIn_of_wp_marks Yba.func4 rfl trivial ?_ rfl
  refine wpIn_wide.2 ?_
  simp only [Yba.ntmps4, List.size_toArray, List.length_cons, List.length_nil, Nat.reduceAdd, Nat.reduceSub, Array.replicate_succ, Array.replicate_zero, List.push_toArray, List.append_toArray, List.nil_append, List.cons_append]
  unfold inArr
  go_wp2_with fail
  generalize hp4 : w.heap.size + 1 + 1 + 1 + 1 = p4
  generalize hp3 : w.heap.size + 1 + 1 + 1 = p3
  generalize hp2 : w.heap.size + 1 + 1 = p2
  generalize hp1 : w.heap.size + 1 = p1
  have HPP : Hid (w.heap.size + 1 = p1 ∧ w.heap.size + 2 = p2 ∧ w.heap.size + 3 = p3 ∧ w.heap.size + 4 = p4) := ⟨by omega, by omega, by omega, by omega⟩
  generalize hW0 : World.alloc _ (Obj.cells #[Value.pointer none, Value.pointer none, Value.pointer none, Value.pointer none, Value.pointer none, Value.pointer none] 42) = W0
  have hW0' : ([.cells (inArr ms rs al x en px sh) 35, .cells idsArr 37, .cells #[.string ⟨#[]⟩, .string ⟨#[48]⟩, .string ⟨#[49]⟩, .string ⟨#[48, 49]⟩, .string ⟨#[49, 50]⟩] 38, .cells #[.int .i64 4, .int .i64 2, .int .i64 16] 40, .cells #[.pointer none, .pointer none, .pointer none, .pointer none, .pointer none, .pointer none] 42] : List Obj).foldl World.alloc w = W0 := hW0
  have hB0 : Built w W0 ms rs al x en px sh (fun _ => 0) 0 := by
    rw [← hW0']
    exact ⟨pushes_below _ _, pushes_at w _ 0 _ rfl, pushes_at w _ 1 _ rfl, pushes_at w _ 2 _ rfl, pushes_at w _ 3 _ rfl, ⟨_, pushes_at w _ 4 _ rfl, rfl, fun k hk => by omega⟩, fun k hk => by omega, fun a ha => by omega⟩
  clear hW0 hW0' hp1 hp2 hp3 hp4
  go_loopg [7] 6 (fun g iv wr => ∃ i NB, g + i = 6 ∧ iv = .int .i64 (i : Int) ∧ Built w wr ms rs al x en px sh NB i)
  case atStart => exact ⟨0, _, rfl, rfl, hB0⟩
  case round =>
    obtain ⟨i, NB, hgi, rfl, hBt⟩ := hrel
    obtain ⟨wo, rfl⟩ : ∃ wo, wo = wr := ⟨_, rfl⟩
    obtain ⟨go, rfl⟩ : ∃ go, go = gk := ⟨_, rfl⟩
    have HG : Hid _ := hgi
    clear hgi hB0
    by_cases hi : i < 6
    · have hi' : (i : Int) < 6 := by omega
      obtain ⟨hp1, hp2, hp3, hp4⟩ := HPP.out
      have c1 : wo.cell? ⟨p1, i, none⟩ = some (.string (idB i)) := by rw [← hp1]; simp [World.cell?, hBt.q1, ids_at i hi]
      have c30 : wo.cell? ⟨p3, 0, none⟩ = some (.int .i64 4) := by rw [← hp3]; simp [World.cell?, hBt.q3]
      have c31 : wo.cell? ⟨p3, 1, none⟩ = some (.int .i64 2) := by rw [← hp3]; simp [World.cell?, hBt.q3]
      have c32 : wo.cell? ⟨p3, 2, none⟩ = some (.int .i64 16) := by rw [← hp3]; simp [World.cell?, hBt.q3]
      have HNT : Hid _ := fun W => newTable i W
      have HB : Hid _ := hBt
      clear hp1 hp2 hp3 hp4 hBt
      obtain ⟨X, hX⟩ : ∃ X, idB i = X := ⟨_, rfl⟩
      rw [hX] at c1
      simp only [hX] at HNT
      have HX : Hid _ := hX
      clear hX
      go_upto_region 8 with fail
      go_cut [8] from 34 to 92 (fun v wx => ∃ T E S, v = .pointer (some ⟨T, 0, none⟩) ∧ TabAt wo.heap.size wx T E S (fun _ => .slice none 0 0) (fun _ => .slice none 0 0) i (fun _ => []) (fun _ => 0) ∧ Below wo.heap.size wo wx)
      case first =>
        go_region_held3 (fun w' => w'.cell? ⟨p1, i, none⟩ = some (.string X) ∧ w'.cell? ⟨p3, 0, none⟩ = some (.int .i64 4) ∧ w'.cell? ⟨p3, 1, none⟩ = some (.int .i64 2) ∧ w'.cell? ⟨p3, 2, none⟩ = some (.int .i64 16))
          ((first | go_keep | (exact ⟨cell_keep (W := wo.drew) c1 hb2, cell_keep (W := wo.drew) c30 hb2, cell_keep (W := wo.drew) c31 hb2, cell_keep (W := wo.drew) c32 hb2⟩)))
          (first | (go_at_call 6; refine (HNT.out _).mono ?_; rintro e w2 ⟨T, E, S, rfl, hT, hb2⟩))
        all_goals
          go_wp2_with fail
          go_meet
          case rel => exact ⟨T, E, S, rfl, hT, ((Below.refl _ wo).drew).trans hb2⟩
      case rest =>
        obtain ⟨T, E, S, rfl, hT, hb2⟩ := hcut
        clear c1 c30 c31 c32
        go_wp2_with fail
        go_loopg [9] 6 (fun g kv wr2 => ∃ k V U M, g + k = 6 ∧ kv = .int .i64 (k : Int) ∧ (∀ j, M j ≤ k) ∧ TabAt wo.heap.size wr2 T E S V U i (selE (pick ms i) k) M ∧ Below wo.heap.size wo wr2)
        case atStart => exact ⟨0, _, _, _, rfl, rfl, fun _ => Nat.le_refl _, by rw [selE_zero]; exact hT, hb2⟩
        case round =>
          clear hT hb2
          obtain ⟨k, V, U, M, hgk, rfl, hM, hT, hb2⟩ := hrel
          have HGK : Hid _ := hgk
          clear hgk
          by_cases hk : k < 6
          · have hk' : (k : Int) < 6 := by omega
            obtain ⟨hp1, hp2, hp3, hp4⟩ := HPP.out
            have b1 : wr.heap[w.heap.size + 1]? = some (.cells idsArr 37 (0, 0)) := obj_keep HB.out.q1 hb2
            have b0 : wr.heap[w.heap.size]? = some (.cells (inArr ms rs al x en px sh) 35 (0, 0)) := obj_keep HB.out.q0 hb2
            have c1 : wr.cell? ⟨p1, k, none⟩ = some (.string (idB k)) := by rw [← hp1]; simp [World.cell?, b1, ids_at k hk]
            have c0 : wr.cell? ⟨w.heap.size, i, none⟩ = some (.int .u8 (ms i)) := by simp [World.cell?, b0, ms_at ms rs al x en px sh i hi]
            clear hp1 hp2 hp3 hp4 b1 b0
            have HT : Hid _ := And.intro hT (And.intro hb2 hM)
            clear hT hb2 hM
            have HBI : Hid _ := bitGo (ms i) k wr (hms i hi).1 (hms i hi).2 hk
            by_cases e : k = i
            · have e' : ((k : Int) != (i : Int)) = false := by simp [e]
              go_wp2_with fail
              go_roundg (gk - 1)
              case measure => have := HGK.out; omega
              case rel =>
                obtain ⟨hT, hb2, hM⟩ := HT.out
                exact ⟨k + 1, V, U, M, by have := HGK.out; omega, by go_num, fun j => Nat.le_succ_of_le (hM j), by rw [selE_skip _ _ (by simp [pick, e])]; exact hT, hb2⟩
            · have e' : ((k : Int) != (i : Int)) = true := by simp; omega
              go_wp2_with fail
              refine Calls.mono HBI.out ?_
              rintro e2 w2 ⟨rfl, hw2⟩
              subst hw2
              cases hbit : bit (ms i) k with
              | false =>
                go_wp2_with fail
                go_roundg (gk - 1)
                case measure => have := HGK.out; omega
                case rel =>
                  obtain ⟨hT, hb2, hM⟩ := HT.out
                  exact ⟨k + 1, V, U, M, by have := HGK.out; omega, by go_num, fun j => Nat.le_succ_of_le (hM j), by rw [selE_skip _ _ (by simp [pick, hbit])]; exact hT, hb2⟩
              | true =>
                have hno : ∀ q, q < 8 → k ∉ selE (pick ms i) k q := fun q _ hm => by rw [mem_selE] at hm; omega
                obtain ⟨hT, hb2, hM⟩ := HT.out
                have hln := selE_len (pick ms i) k (k / 3)
                have hMk := hM (k / 3)
                have HAD : Hid _ := addGo (hT.keep (W' := w2.drew) (Below.drew (Below.refl _ _))) k hi hk hno (by omega) (by omega) (by exact hb2.size)
                have HD : Hid (∀ w, Calls Yba.prog 9 #[.string (idB k), .int .i64 0] w fun e w' => e = .returned (.int .i64 ((k / 3 : Nat) : Int)) ∧ w' = w) := fun w => digitGo k 0 w hk (by omega)
                have lp1 : p1 < wo.heap.size := by have h1 := HPP.out.1; have h2 := (Array.getElem?_eq_some_iff.1 HB.out.q1).1; omega
                obtain ⟨d, hd⟩ : ∃ d, k / 3 = d := ⟨_, rfl⟩
                obtain ⟨Y, hY⟩ : ∃ Y, idB k = Y := ⟨_, rfl⟩
                rw [hd, hY] at HAD
                rw [hd, hY] at HD
                rw [hY] at c1
                have HHD : Hid _ := hd
                clear hd hY hT hb2 hM hln hMk hno
                go_wp2_with fail
                go_region_held3 (fun w' => w'.cell? ⟨p1, k, none⟩ = some (.string Y))
                  ((first | go_keep | (exact (hb3.cell (p := ⟨p1, k, none⟩) lp1).trans c1)))
                  (first
                    | (go_at_call 9; refine (HD.out _).mono ?_; rintro e3 w3 ⟨rfl, rfl⟩)
                    | (go_at_call 8; refine Calls.mono HAD.out ?_; rintro e3 w3 ⟨rfl, V', U', hT3, hb3⟩))
                all_goals
                  go_wp2_with fail
                  go_roundg (gk - 1)
                  case measure => have := HGK.out; omega
                  case rel =>
                    obtain ⟨hT, hb2, hM⟩ := HT.out
                    have hd := HHD.out
                    refine ⟨k + 1, V', U', _, by have := HGK.out; omega, by go_num, ?_, by rw [← upd_selE _ _ (by simp [pick, hbit]; omega), hd]; exact hT3, (hb2.drew).trans hb3⟩
                    intro j
                    have h1 := hM j
                    have h2 := hM d
                    simp only [upd]
                    split <;> omega
          · have hk' : ¬ (k : Int) < 6 := by omega
            have hk6 : k = 6 := by have := HGK.out; omega
            have HT : Hid _ := And.intro hT (And.intro hb2 hM)
            clear hT hb2 hM
            go_wp2_with fail
            obtain ⟨wn, rfl⟩ : ∃ wn, wn = wr := ⟨_, rfl⟩
            obtain ⟨gn, rfl⟩ : ∃ gn, gn = gk := ⟨_, rfl⟩
            subst hk6
            have hown : ∀ j, j < 8 → i ∉ selE (pick ms i) 6 j := fun j _ hm => by rw [mem_selE] at hm; simp [pick] at hm
            refine Calls.mono (newGo HT.out.1 hi hown) ?_
            rintro e w2 ⟨N, mp, fm, bq, gu, wl, hh, rfl, hF, l1, l2, l3, l4⟩
            have hN0 := Nd.first hF l1 l2 l3 l4 (Nat.le_refl _)
            have hbF := hF.below
            have HLN : Hid _ := l1
            clear hF l1 l2 l3 l4 hown hk' HGK
            go_wp2_with fail
            go_loopg [11] 6 (fun g kv wr3 => ∃ k ca ov av iv pv, g + k = 6 ∧ kv = .int .i64 (k : Int) ∧ Nd wn.heap.size wr3 N T mp fm (sel (pick rs i) k) (2 * (sel (pick rs i) k).length) ca ov av iv pv ∧ Below wn.heap.size wn wr3)
            case atStart => exact ⟨0, _, _, _, _, _, rfl, rfl, hN0, hbF⟩
            case round =>
              clear hN0 hbF
              obtain ⟨k, ca, ov, av, iv, pv, hgk, rfl, hN, hb3⟩ := hrel
              have HGK : Hid _ := hgk
              have HN : Hid _ := And.intro hN hb3
              clear hgk hN hb3
              by_cases hk : k < 6
              · have hk' : (k : Int) < 6 := by omega
                obtain ⟨hp1, hp2, hp3, hp4⟩ := HPP.out
                have hbo : Below wo.heap.size wo wr := HT.out.2.1.trans (HN.out.2.mono HT.out.2.1.size)
                have b1 : wr.heap[w.heap.size + 1]? = some (.cells idsArr 37 (0, 0)) := obj_keep HB.out.q1 hbo
                have b0 : wr.heap[w.heap.size]? = some (.cells (inArr ms rs al x en px sh) 35 (0, 0)) := obj_keep HB.out.q0 hbo
                have c1 : wr.cell? ⟨p1, k, none⟩ = some (.string (idB k)) := by rw [← hp1]; simp [World.cell?, b1, ids_at k hk]
                have c0 : wr.cell? ⟨w.heap.size, 6 + i, none⟩ = some (.int .u8 (rs i)) := by simp [World.cell?, b0, rs_at ms rs al x en px sh i hi]
                clear hp1 hp2 hp3 hp4 b1 b0 hbo
                have HBI : Hid _ := bitGo (rs i) k wr (hrs i hi).1 (hrs i hi).2 hk
                by_cases e : k = i
                · have e' : ((k : Int) != (i : Int)) = false := by simp [e]
                  go_wp2_with fail
                  go_roundg (gk - 1)
                  case measure => have := HGK.out; omega
                  case rel =>
                    have hs : sel (pick rs i) (k + 1) = sel (pick rs i) k := by rw [sel_succ]; simp [pick, e]
                    refine ⟨k + 1, ca, ov, av, iv, pv, by have := HGK.out; omega, by go_num, ?_, HN.out.2⟩
                    rw [hs]; exact HN.out.1
                · have e' : ((k : Int) != (i : Int)) = true := by simp; omega
                  go_wp2_with fail
                  refine Calls.mono HBI.out ?_
                  rintro e2 w2 ⟨rfl, hw2⟩
                  subst hw2
                  cases hbit : bit (rs i) k with
                  | false =>
                    go_wp2_with fail
                    go_roundg (gk - 1)
                    case measure => have := HGK.out; omega
                    case rel =>
                      have hs : sel (pick rs i) (k + 1) = sel (pick rs i) k := by rw [sel_succ]; simp [pick, hbit]
                      refine ⟨k + 1, ca, ov, av, iv, pv, by have := HGK.out; omega, by go_num, ?_, HN.out.2⟩
                      rw [hs]; exact HN.out.1
                  | true =>
                    have hno : k ∉ sel (pick rs i) k := fun hm => by rw [mem_sel] at hm; omega
                    have hln := sel_len (pick rs i) k
                    have HAR : Hid _ := addReverseGo HN.out.1 k hk hno (by omega) (by omega)
                    clear hno hln
                    go_wp2_with fail
                    refine Calls.mono HAR.out ?_
                    rintro e3 w3 ⟨⟨v, rfl⟩, ca', ov', av', iv', pv', hN3, hb3⟩
                    clear c0 c1
                    go_wp2_with fail
                    go_roundg (gk - 1)
                    case measure => have := HGK.out; omega
                    case rel =>
                      have hs : sel (pick rs i) (k + 1) = sel (pick rs i) k ++ [k] := by rw [sel_succ]; simp [pick, hbit, e]
                      refine ⟨k + 1, ca', ov', av', iv', pv', by have := HGK.out; omega, by go_num, ?_, HN.out.2.trans hb3⟩
                      rw [hs, List.length_append, Nat.mul_add]; exact hN3
              · have hk' : ¬ (k : Int) < 6 := by omega
                have hk6 : k = 6 := by have := HGK.out; omega
                obtain ⟨hp1, hp2, hp3, hp4⟩ := HPP.out
                have hbo : Below wo.heap.size wo wr := HT.out.2.1.trans (HN.out.2.mono HT.out.2.1.size)
                obtain ⟨nd, hq4, hsz, hnd⟩ := HB.out.q4
                have b4 : wr.heap[w.heap.size + 4]? = some (.cells nd 42 (0, 0)) := obj_keep hq4 hbo
                rw [hp4] at b4
                have H4 : Hid _ := And.intro b4 (And.intro hsz (And.intro hnd hbo))
                have f4 : wr.frozen? ⟨p4, i, none⟩ = false := by simp [World.frozen?, b4]
                have c4 : ∃ v, wr.cell? ⟨p4, i, none⟩ = some v := ⟨nd[i]'(by omega), by simp [World.cell?, b4, Array.getElem?_eq_getElem (show i < nd.size by omega)]⟩
                obtain ⟨v4, c4⟩ := c4
                clear hp1 hp2 hp3 hp4 b4 hq4 hsz hnd hbo
                go_wp2_with fail
                go_roundg (go - 1)
                case measure => have := HG.out; omega
                case rel =>
                  subst hk6
                  have hown : ∀ j, j < 8 → i ∉ selE (pick ms i) 6 j := fun j _ hm => by rw [mem_selE] at hm; simp [pick] at hm
                  have hnode := nodeAt_of HN.out.1 (HT.out.1.keep HN.out.2) hown
                  rw [flat_sel] at hnode
                  have hst := built_step HB.out hi H4.out.2.2.2 hnode (Nat.le_trans HT.out.2.1.size HLN.out)
                  rw [HPP.out.2.2.2] at hst
                  exact ⟨i + 1, _, by have := HG.out; omega, by go_num, hst⟩
    · have hi' : ¬ (i : Int) < 6 := by omega
      have hi6 : i = 6 := by have := HG.out; omega
      subst hi6
      have HB : Hid _ := hBt
      clear hBt hi hi'
      have hmm := @run_makeMap Yba.prog
      go_wp2_with fail
      clear hmm
      obtain ⟨wA, rfl⟩ : ∃ wA, wA = wo := ⟨_, rfl⟩
      have hA0 : AliveAt (wA.alloc (.map #[] 0)) wA.heap.size NB (fun q => decide (q < 0) && bit al q) := alive_nil _ _ _ _ (heap_alloc_new _ _)
      have hb0 : Below wA.heap.size wA (wA.alloc (.map #[] 0)) := (Below.refl _ _).alloc (Nat.le_refl _) _
      generalize World.alloc wA (.map #[] 0) = W1 at hA0 hb0 ⊢
      obtain ⟨am, ham⟩ : ∃ am, wA.heap.size = am := ⟨_, rfl⟩
      rw [ham] at hA0 hb0
      simp only [ham]
      have HAM : Hid _ := ham
      clear ham
      go_loopg [13] 6 (fun g kv wr2 => ∃ k : Nat, g + k = 6 ∧ kv = .int .i64 (k : Int) ∧ AliveAt wr2 am NB (fun q => decide (q < k) && bit al q) ∧ Below am wA wr2)
      case atStart => exact ⟨0, rfl, rfl, hA0, hb0⟩
      case round =>
        clear hA0 hb0
        obtain ⟨k, hgk, rfl, hA, hb⟩ := hrel
        have HGK : Hid _ := hgk
        clear hgk
        by_cases hk : k < 6
        · have hk' : (k : Int) < 6 := by omega
          obtain ⟨hp1, hp2, hp3, hp4⟩ := HPP.out
          have hbA : Below wA.heap.size wA wr := by rw [HAM.out]; exact hb
          have hBr := HB.out.keep hbA
          have c1 : wr.cell? ⟨p1, k, none⟩ = some (.string (idB k)) := by rw [← hp1]; simp [World.cell?, hBr.q1, ids_at k hk]
          have c0 : wr.cell? ⟨w.heap.size, 12, none⟩ = some (.int .u8 al) := by simp [World.cell?, hBr.q0, inArr]
          have c4 : wr.cell? ⟨p4, k, none⟩ = some (.pointer (some ⟨NB k, 0, none⟩)) := by
            obtain ⟨nd, n1, n2, n3⟩ := hBr.q4
            rw [← hp4]; simp [World.cell?, n1, n3 k hk]
          have HA : Hid _ := And.intro hA hb
          clear hp1 hp2 hp3 hp4 hbA hBr hA hb
          have HBI : Hid _ := bitGo al k wr hal.1 hal.2 hk
          go_wp2_with fail
          refine Calls.mono HBI.out ?_
          rintro e2 w2 ⟨rfl, hw2⟩
          subst hw2
          cases hbit : bit al k with
          | false =>
            go_wp2_with fail
            go_roundg (gk - 1)
            case measure => have := HGK.out; omega
            case rel => exact ⟨k + 1, by have := HGK.out; omega, by go_num, alive_skip k HA.out.1 hbit, HA.out.2⟩
          | true =>
            obtain ⟨o, hu, hA2, hs2, hoth⟩ := alive_put (W := w2.drew) k hk HA.out.1 hbit
            obtain ⟨Y, hY⟩ : ∃ Y, idB k = Y := ⟨_, rfl⟩
            rw [hY] at hu c1
            obtain ⟨W3, hW3⟩ : ∃ W3, setBlock w2.drew am o = W3 := ⟨_, rfl⟩
            have hm3 : W3.os = w2.os ∧ W3.tape = w2.tape ∧ W3.output = w2.output := by rw [← hW3]; exact ⟨rfl, rfl, rfl⟩
            rw [hW3] at hu hA2 hs2 hoth
            have H3 : Hid _ := And.intro hA2 (And.intro hs2 (And.intro hoth hm3))
            clear hY hA2 hs2 hoth hW3 hm3
            go_wp2_with fail
            go_region
            all_goals
              clear c0 c1 c4
              go_wp2_with fail
              go_roundg (gk - 1)
              case measure => have := HGK.out; omega
              case rel =>
                obtain ⟨hA2, hs2, hoth, hm1, hm2, hm3⟩ := H3.out
                refine ⟨k + 1, by have := HGK.out; omega, by go_num, hA2, HA.out.2.trans ⟨hm1, hm2, hm3, by rw [hs2]; exact Nat.le_refl _, fun b hb => hoth b (by omega)⟩⟩
        · have hk' : ¬ (k : Int) < 6 := by omega
          have hk6 : k = 6 := by have := HGK.out; omega
          subst hk6
          obtain ⟨hp1, hp2, hp3, hp4⟩ := HPP.out
          have hbA : Below wA.heap.size wA wr := by rw [HAM.out]; exact hb
          have hBr := HB.out.keep hbA
          have c0 : wr.cell? ⟨w.heap.size, 13, none⟩ = some (.int .u8 x) := by simp [World.cell?, hBr.q0, inArr]
          have HA5 : Hid _ := And.intro hA.six (And.intro hBr hb)
          clear hA hbA hBr hb hp1 hp2 hp3 hp4 HGK hk hk'
          go_wp2_with fail
          clear c0
          obtain ⟨wB, rfl⟩ : ∃ wB, wB = wr := ⟨_, rfl⟩
          obtain ⟨gB, rfl⟩ : ∃ gB, gB = gk := ⟨_, rfl⟩
          obtain ⟨xn, hxn, hxl⟩ : ∃ xn : Nat, x % 6 = (xn : Int) ∧ xn < 6 := ⟨(x % 6).toNat, by omega, by omega⟩
          simp only [hxn]
          have HXN : Hid _ := hxn
          clear hxn
          go_loopg [15, 16] 6 (fun g ev kv wr2 => ∃ (k : Nat) (eo : Option Addr) (ec : Nat), g + k = 6 ∧ kv = .int .i64 (k : Int) ∧ ev = .slice eo (sel (bit en) k).length ec ∧ IdRow wB.heap.size wr2 (.slice eo (sel (bit en) k).length ec) (sel (bit en) k) ∧ Below wB.heap.size wB wr2)
          case atStart => exact ⟨0, none, 0, rfl, rfl, rfl, World.ownsRow_nil _ _ _ _, Below.refl _ _⟩
          case round =>
            obtain ⟨k, eo, ec, hgk, rfl, rfl, rE, hb⟩ := hrel
            have HGK : Hid _ := hgk
            clear hgk
            by_cases hk : k < 6
            · have hk' : (k : Int) < 6 := by omega
              obtain ⟨hp1, hp2, hp3, hp4⟩ := HPP.out
              have hBr := HA5.out.2.1.keep hb
              have c1 : wr.cell? ⟨p1, k, none⟩ = some (.string (idB k)) := by rw [← hp1]; simp [World.cell?, hBr.q1, ids_at k hk]
              have c0 : wr.cell? ⟨w.heap.size, 14, none⟩ = some (.int .u8 en) := by simp [World.cell?, hBr.q0, inArr]
              have lp1 : p1 < wr.heap.size := World.block_lt_of_cell? wr _ c1
              have hln := sel_len (bit en) k
              have HE : Hid _ := And.intro rE hb
              have HBI : Hid _ := bitGo en k wr hen.1 hen.2 hk
              clear hp1 hp2 hp3 hp4 hBr rE
              have hsb := hb.size
              clear hb
              cases hbit : bit en k with
              | false =>
                have hs : sel (bit en) (k + 1) = sel (bit en) k := by rw [sel_succ]; simp [hbit]
                obtain ⟨A, hA⟩ : ∃ A, sel (bit en) k = A := ⟨_, rfl⟩
                obtain ⟨n, hn⟩ : ∃ n, A.length = n := ⟨_, rfl⟩
                rw [hA] at hs hln HE
                simp only [hA, hn] at hln HE ⊢
                have HS : Hid _ := And.intro hs hn
                clear hs hA hn
                go_wp2_with fail
                refine Calls.mono HBI.out ?_
                rintro e2 w2 ⟨rfl, hw2⟩
                subst hw2
                go_wp2_with fail
                go_roundg (gk - 1)
                case measure => have := HGK.out; omega
                case rel => exact ⟨k + 1, eo, ec, by have := HGK.out; omega, by go_num, by rw [HS.out.1, HS.out.2], by rw [HS.out.1, HS.out.2]; exact HE.out.1, HE.out.2⟩
              | true =>
                have hs : sel (bit en) (k + 1) = sel (bit en) k ++ [k] := by rw [sel_succ]; simp [hbit]
                obtain ⟨A, hA⟩ : ∃ A, sel (bit en) k = A := ⟨_, rfl⟩
                obtain ⟨n, hn⟩ : ∃ n, A.length = n := ⟨_, rfl⟩
                rw [hA] at hs hln HE
                simp only [hA, hn] at hln HE ⊢
                have HS : Hid _ := And.intro hs hn
                obtain ⟨Y, hY⟩ : ∃ Y, idB k = Y := ⟨_, rfl⟩
                rw [hY] at c1
                have HY : Hid _ := hY
                clear hs hA hn hY
                go_wp2_with fail
                refine Calls.mono HBI.out ?_
                rintro e2 w2 ⟨rfl, hw2⟩
                subst hw2
                rw [hbit]
                have hr : w2.ownsRow wB.heap.size 36 1 (.slice eo n ec) n (A.map fun k => Value.string (idB k)) := by have := HE.out.1; unfold IdRow at this; rw [HS.out.2] at this; exact this
                have HR : Hid _ := hr
                clear hr
                obtain ⟨i0, hi0, hz0, hz1, hz2⟩ := info_parts info36
                go_wp2_with (at_builtin; refine wpList_append_lies _ rfl _ _ _ rfl wB.heap.size 36 i0 _ 1 16 Yba.underlying62 hi0 hz0 hz1 hz2 rfl (by omega) (.slice eo n ec) n (A.map fun k => Value.string (idB k)) rfl ?c1 ⟨w2.heap.size, 0, none⟩ 1 1 [.string Y] rfl rfl ?c2 ?c3 (by omega) ?c4 ?c5 ?c6 (w2.heap.size + 1) ?c7 ?_)
                case c1 => exact World.ownsRow.alloc HR.out _
                case c2 => exact World.news_of_block (cs := #[.string Y]) (t := 36) (fr := (0, 0)) (heap_alloc_new w2 _)
                case c3 => simp [Value.oneCell']
                case c4 => unfold maxLen; omega
                case c5 => omega
                case c6 => simp; omega
                case c7 => simp
                intro g cap w3 hown hgrow hat hlt
                have H3 : Hid _ := And.intro hown hgrow
                clear hown hgrow hat hlt c0 c1
                go_wp2_with fail
                go_roundg (gk - 1)
                case measure => have := HGK.out; omega
                case rel =>
                  have hn := HS.out.2
                  have hl : (A ++ [k]).length = n + 1 := by simp [hn]
                  refine ⟨k + 1, some ⟨g, 0, none⟩, cap, by have := HGK.out; omega, by go_num, by rw [HS.out.1, hl], ?_, ?_⟩
                  · rw [HS.out.1, hl]; unfold IdRow; rw [hl, List.map_append, List.map_singleton, HY.out]; exact H3.out.1
                  · exact (HE.out.2.alloc hsb _).grown H3.out.2 (by simp; omega) (fun b e => row_ge HR.out e)
            · have hk' : ¬ (k : Int) < 6 := by omega
              have hk6 : k = 6 := by have := HGK.out; omega
              subst hk6
              obtain ⟨wC, rfl⟩ : ∃ wC, wC = wr := ⟨_, rfl⟩
              obtain ⟨hp1, hp2, hp3, hp4⟩ := HPP.out
              have hBr := HA5.out.2.1.keep hb
              have hAr : AliveAt wC am NB (bit al) := HA5.out.1.keep (hb.block am (by
                obtain ⟨es, c, h, _⟩ := HA5.out.1
                exact (Array.getElem?_eq_some_iff.1 h).1))
              obtain ⟨pn, hpn, hpl⟩ : ∃ pn : Nat, px % 5 = (pn : Int) ∧ pn < 5 := ⟨(px % 5).toNat, by omega, by omega⟩
              have c0 : wC.cell? ⟨w.heap.size, 15, none⟩ = some (.int .u8 px) := by simp [World.cell?, hBr.q0, inArr]
              have c6 : wC.cell? ⟨w.heap.size, 16, none⟩ = some (.int .i64 sh) := by simp [World.cell?, hBr.q0, inArr]
              have c2 : wC.cell? ⟨p2, pn, none⟩ = some (.string (preB pn)) := by rw [← hp2]; simp [World.cell?, hBr.q2, pre_at pn hpl]
              have c4 : wC.cell? ⟨p4, xn, none⟩ = some (.pointer (some ⟨NB xn, 0, none⟩)) := by
                obtain ⟨nd, n1, n2, n3⟩ := hBr.q4
                rw [← hp4]; simp [World.cell?, n1, n3 xn hxl]
              have hNs : Nodes wC NB (fun k => sel (pick ms k) 6) (fun k => sel (pick rs k) 6) := ⟨hBr.nodes, hBr.inj⟩
              have hml : ∀ n, n < 6 → (sel (pick ms n) 6).length ≤ 6 ∧ (sel (pick rs n) 6).length ≤ 6 := fun n _ => ⟨sel_len _ _, sel_len _ _⟩
              have HMU : Hid _ := makeUpGo wC.drew am NB (bit al) xn _ (sel (bit en) 6) wB.heap.size (preB pn) sh _ _ hxl (preB_size pn) (hNs.keep ((Below.refl _ _).drew)) (hAr.keep rfl) (rE.drew) (fun y hy => ((mem_sel _ _ _).1 hy).1) hml
              obtain ⟨P, hP⟩ : ∃ P, preB pn = P := ⟨_, rfl⟩
              rw [hP] at c2 HMU
              obtain ⟨an, han⟩ : ∃ an, answer (fun k => sel (pick ms k) 6) (fun k => sel (pick rs k) 6) (bit al) P (sel (bit en) 6) (((fun k => sel (pick ms k) 6) xn).foldl (stepS (bit al)) [xn]) sh = an := ⟨_, rfl⟩
              rw [han] at HMU
              have HAN : Hid _ := And.intro han (And.intro hP hpn)
              have HC : Hid _ := And.intro hBr (And.intro rE hNs)
              obtain ⟨n, hn⟩ : ∃ n, (sel (bit en) 6).length = n := ⟨_, rfl⟩
              rw [hn] at HMU
              simp only [hn]
              clear hp1 hp2 hp3 hp4 hBr hAr hNs hml rE hb han hP HGK hk hk' hn
              have hxl' : (xn : Int) < 6 := by omega
              go_upto_region 35 with fail
              go_cut [18] from 31 to 248 (fun v wx => v = .bool an ∧ Below wC.heap.size wC wx)
              case first =>
                go_region_held3 (fun w' => w'.cell? ⟨p4, xn, none⟩ = some (.pointer (some ⟨NB xn, 0, none⟩)) ∧ w'.cell? ⟨w.heap.size, 16, none⟩ = some (.int .i64 sh))
                  ((first | go_keep | (exact ⟨cell_keep (W := wC.drew) c4 hbm, cell_keep (W := wC.drew) c6 hbm⟩)))
                  (first | (go_at_call 12; refine Calls.mono HMU.out ?_; rintro e wm ⟨rfl, hbm⟩))
                all_goals
                  go_wp2_with fail
                  go_meet
                  case rel => exact ⟨rfl, ((Below.refl _ wC).drew).trans hbm⟩
              case rest =>
                obtain ⟨rfl, hbc⟩ := hcut
                obtain ⟨wD, rfl⟩ : ∃ wD, wD = wc := ⟨_, rfl⟩
                have HD : Hid _ := HC.out.1.keep hbc
                clear c0 c6 c2 c4 hpn HMU hbc
                go_wp2_with fail
                have hr0 : (wD.alloc (.cells #[.int .i64 (xn : Int)] 3)).ownsRow wD.heap.size 3 1 (.slice (some ⟨wD.heap.size, 0, none⟩) 1 1) 1 [.int .i64 (xn : Int)] := ⟨by simp, .inr ⟨wD.heap.size, 1, _, rfl, Nat.le_refl _, heap_alloc_new _ _, by simp, by unfold maxLen; omega, by simp, by simp⟩⟩
                have hb0 : Below wD.heap.size wD (wD.alloc (.cells #[.int .i64 (xn : Int)] 3)) := (Below.refl _ _).alloc (Nat.le_refl _) _
                generalize World.alloc wD _ = W1 at hr0 hb0 ⊢
                generalize (some ⟨wD.heap.size, 0, none⟩ : Option Addr) = so0 at hr0 ⊢
                go_loopg [19, 20] 6 (fun g sv kv wr2 => ∃ (k : Nat) (so : Option Addr) (sc : Nat), g + k = 6 ∧ kv = .int .i64 (k : Int) ∧ sv = .slice so ((sel (searchable ms al xn) k).length + 1) sc ∧ wr2.ownsRow wD.heap.size 3 1 (.slice so ((sel (searchable ms al xn) k).length + 1) sc) ((sel (searchable ms al xn) k).length + 1) (ints (xn :: sel (searchable ms al xn) k)) ∧ Below wD.heap.size wD wr2)
                case atStart => exact ⟨0, so0, 1, rfl, rfl, rfl, hr0, hb0⟩
                case round =>
                  clear hr0 hb0
                  obtain ⟨k, so, sc, hgk, rfl, rfl, rS, hb⟩ := hrel
                  have HGK : Hid _ := hgk
                  clear hgk
                  by_cases hk : k < 6
                  · have hk' : (k : Int) < 6 := by omega
                    have hBr := HD.out.keep hb
                    have c0 : wr.cell? ⟨w.heap.size, xn, none⟩ = some (.int .u8 (ms xn)) := by simp [World.cell?, hBr.q0, ms_at ms rs al x en px sh xn hxl]
                    have c12 : wr.cell? ⟨w.heap.size, 12, none⟩ = some (.int .u8 al) := by simp [World.cell?, hBr.q0, inArr]
                    have hln := sel_len (searchable ms al xn) k
                    have HE : Hid _ := And.intro rS hb
                    have HBI : Hid _ := bitGo (ms xn) k wr (hms xn hxl).1 (hms xn hxl).2 hk
                    have HBA : Hid _ := bitGo al k wr hal.1 hal.2 hk
                    clear hBr rS
                    have hsb := hb.size
                    clear hb
                    obtain ⟨A, hA⟩ : ∃ A, sel (searchable ms al xn) k = A := ⟨_, rfl⟩
                    obtain ⟨n, hn⟩ : ∃ n, A.length = n := ⟨_, rfl⟩
                    have HS : Hid (sel (searchable ms al xn) (k + 1) = (if searchable ms al xn k then A ++ [k] else A) ∧ A.length = n) := ⟨by rw [sel_succ, hA], hn⟩
                    rw [hA] at hln HE
                    simp only [hA, hn] at hln HE ⊢
                    clear hA hn
                    by_cases e : k = xn
                    · have e' : ((k : Int) != (xn : Int)) = false := by simp [e]
                      go_wp2_with fail
                      go_roundg (gk - 1)
                      case measure => have := HGK.out; omega
                      case rel =>
                        have hs : searchable ms al xn k = false := by simp [searchable, pick, e]
                        have h1 := HS.out.1
                        rw [hs] at h1
                        simp only [Bool.false_eq_true, if_false] at h1
                        exact ⟨k + 1, so, sc, by have := HGK.out; omega, by go_num, by rw [h1, HS.out.2], by rw [h1, HS.out.2]; exact HE.out.1, HE.out.2⟩
                    · have e' : ((k : Int) != (xn : Int)) = true := by simp; omega
                      go_wp2_with fail
                      refine Calls.mono HBI.out ?_
                      rintro e2 w2 ⟨rfl, hw2⟩
                      subst hw2
                      cases hbit : bit (ms xn) k with
                      | false =>
                        go_wp2_with fail
                        go_roundg (gk - 1)
                        case measure => have := HGK.out; omega
                        case rel =>
                          have hs : searchable ms al xn k = false := by simp [searchable, pick, hbit]
                          have h1 := HS.out.1
                          rw [hs] at h1
                          simp only [Bool.false_eq_true, if_false] at h1
                          exact ⟨k + 1, so, sc, by have := HGK.out; omega, by go_num, by rw [h1, HS.out.2], by rw [h1, HS.out.2]; exact HE.out.1, HE.out.2⟩
                      | true =>
                        go_wp2_with fail
                        refine Calls.mono HBA.out ?_
                        rintro e3 w3 ⟨rfl, hw3⟩
                        subst hw3
                        cases hbal : bit al k with
                        | false =>
                          go_wp2_with fail
                          go_roundg (gk - 1)
                          case measure => have := HGK.out; omega
                          case rel =>
                            have hs : searchable ms al xn k = false := by simp [searchable, hbal]
                            have h1 := HS.out.1
                            rw [hs] at h1
                            simp only [Bool.false_eq_true, if_false] at h1
                            exact ⟨k + 1, so, sc, by have := HGK.out; omega, by go_num, by rw [h1, HS.out.2], by rw [h1, HS.out.2]; exact HE.out.1, HE.out.2⟩
                        | true =>
                          have hs : searchable ms al xn k = true := by simp [searchable, pick, hbit, hbal, e]
                          have h1 := HS.out.1
                          rw [hs] at h1
                          simp only [if_true] at h1
                          have HS1 : Hid _ := h1
                          clear hs h1
                          obtain ⟨i0, hi0, hz0, hz1, hz2⟩ := info_parts info3
                          have hr : w3.ownsRow wD.heap.size 3 1 (.slice so (n + 1) sc) (n + 1) (ints (xn :: A)) := HE.out.1
                          have HR : Hid _ := hr
                          clear hr
                          go_wp2_with (at_builtin; refine wpList_append_lies _ rfl _ _ _ rfl wD.heap.size 3 i0 _ 1 8 Yba.underlying64 hi0 hz0 hz1 hz2 rfl (by omega) (.slice so (n + 1) sc) (n + 1) (ints (xn :: A)) rfl ?c1 ⟨w3.heap.size, 0, none⟩ 1 1 [.int .i64 (k : Int)] rfl rfl ?c2 ?c3 (by omega) ?c4 ?c5 ?c6 (w3.heap.size + 1) ?c7 ?_)
                          case c1 => exact World.ownsRow.alloc HR.out _
                          case c2 => exact World.news_of_block (cs := #[.int .i64 (k : Int)]) (t := 3) (fr := (0, 0)) (heap_alloc_new w3 _)
                          case c3 => simp [Value.oneCell']
                          case c4 => unfold maxLen; omega
                          case c5 => omega
                          case c6 => simp; omega
                          case c7 => simp
                          intro g cap w4 hown hgrow hat hlt
                          have H3 : Hid _ := And.intro hown hgrow
                          clear hown hgrow hat hlt c0 c12
                          go_wp2_with fail
                          go_roundg (gk - 1)
                          case measure => have := HGK.out; omega
                          case rel =>
                            have hn := HS.out.2
                            have hl : (A ++ [k]).length = n + 1 := by simp [hn]
                            refine ⟨k + 1, some ⟨g, 0, none⟩, cap, by have := HGK.out; omega, by go_num, by rw [HS1.out, hl], ?_, ?_⟩
                            · rw [HS1.out, hl, ← List.cons_append, ints_append]; exact H3.out.1
                            · exact (HE.out.2.alloc hsb _).grown H3.out.2 (by simp; omega) (fun b e => row_ge HR.out e)
                  · have hk' : ¬ (k : Int) < 6 := by omega
                    have hk6 : k = 6 := by have := HGK.out; omega
                    subst hk6
                    obtain ⟨wE, rfl⟩ : ∃ wE, wE = wr := ⟨_, rfl⟩
                    obtain ⟨g, hso, hsg⟩ : ∃ g, so = some ⟨g, 0, none⟩ ∧ ∀ q (hq : q < (srch ms al xn).length), wE.cell? ⟨g, q, none⟩ = some (.int .i64 ((srch ms al xn)[q] : Int)) := by
                      rcases ownsRow_cases rS with ⟨_, h, _⟩ | ⟨g, cap, h, _, _, _, _, h2⟩
                      · exact absurd h (by simp)
                      · cases h
                        refine ⟨g, rfl, fun q hq => ?_⟩
                        rw [(h2 q (by simpa [srch] using hq)).1]
                        show (ints (srch ms al xn))[q]? = _
                        simp [ints, hq]
                    have HE : Hid _ := HD.out.keep hb
                    have HSG : Hid _ := hsg
                    subst hso
                    obtain ⟨len, hlen⟩ : ∃ len, (sel (searchable ms al xn) 6).length + 1 = len := ⟨_, rfl⟩
                    simp only [hlen]
                    have hlen7 : len ≤ 7 := by have := sel_len (searchable ms al xn) 6; omega
                    have HLEN : Hid ((srch ms al xn).length = len) := by show (srch ms al xn).length = len; rw [← hlen]; rfl
                    clear rS hb hsg hlen hk hk' HGK
                    go_upto_region 42 with fail
                    go_cut [21] from 31 to 248 (fun v wx => v = .pointer (some ⟨wE.heap.size, 0, none⟩) ∧ wx = wE.alloc (.cells #[.bool false, .bool false, .bool false, .bool false, .bool false, .bool false] 65))
                    case first =>
                      go_wp2_with fail
                      go_meet
                      case rel => exact ⟨rfl, rfl⟩
                    case rest =>
                      obtain ⟨rfl, rfl⟩ := hcut
                      have hPs : P.size ≤ 2 := by rw [← HAN.out.2.1]; exact preB_size pn
                      have haw : an = want (vis (fun k => sel (pick ms k) 6) (fun k => sel (pick rs k) 6) (srch ms al xn) (srch ms al xn).length) al en P sh := by rw [← HAN.out.1]; exact answer_want ms rs al en xn P sh
                      refine ‹∀ (a : Act) (w : World), Code.wp Yba.prog _ _ a w → _› _ _ ?_
                      exact tailC ms rs al x en px sh w wE NB p1 p4 xn g len sc (srch ms al xn) P an hms hal hen (srch_six ms al xn hxl) hlen7 hPs ⟨HPP.out.1, HPP.out.2.2.2⟩ HE HSG HLEN haw _ _ _ _ _ _ _ _ _ _ _ _ _ _ _ _ _ _ _ _ _ _ _ _ _ _ _ _ _ _ _ _ _ _ _ _ _ _ _ _ _ _ _ _ _ _ _ _ _ _ _ _ _ _ _ _ _ _ _ _ _ _ _ _ _ _ _ _ _ _ _ _ _ _ _ _ _ _ _ _ _ _ _ _ _ _ _ _ _ _ _ _ _ _ _ _ _ _ _ _ _ _ _ _ _ _ _ _ _ _ _ _ _ _ _ _ _ _ _ _ _ _ _ _ _ _ _ _ _ _ _ _ _ _ _ _ _ _ _ _ _ _ _ _ _ _ _ _ _ _ _ _ _ _ _ _ _ _ _ _ _ _ _ _ _ _ _ _ _ _ _ _ _ _ _ _ _ _ _ _ _ _ _ _ _ _ _ _ _ _ _ _ _ _ _ _ _ _ _ _ _ _ _ _ _ _ _ _ _ _ _ _ _ _ _ _ _ _ _ _ _ _ _ _ _ _ _ _ _ _ _ _ _ _ _ _ _ _ _ _ _
end Go.Proofs.Ybulkckim
