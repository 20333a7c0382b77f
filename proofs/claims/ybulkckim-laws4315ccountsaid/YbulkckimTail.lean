import Derived.Test.YbulkckimVis
import Derived.Sort.LoopGhostIn
namespace Go.Proofs.Ybulkckim
open Go.RowKit Go.Shelf
attribute [local go_sem] Oper.semAt_some

def peel : Nat → Code → Code
  | 0, c => c
  | n + 1, .seq _ c => peel n c
  | _ + 1, c => c

theorem res4 (tmps : Array Value) (W : World) (b : Bool) (h2 : tmps.getD 2 undef = .bool b) : (results Yba.f4 tmps).run Yba.prog W = .ok (.bool b) W := by
  have hr : Yba.f4.results = #[.tmp 2] := rfl
  have h2' : tmps[2]?.getD undef = .bool b := by simpa using h2
  simp only [results, hr]
  go_simp

/-- Those who count. -/
def counts (vl : List Nat) (al en : Int) (P : ByteArray) (q : Nat) : Bool := decide (q ∈ vl) && bit al q && hp (idB q) P && !bit en q
/-- What the law wants. -/
def want (vl : List Nat) (al en : Int) (P : ByteArray) (sh : Int) : Bool := if sh ≤ 0 then decide (vl ≠ []) else decide (sh ≤ ((sel (counts vl al en P) 6).length : Int))

set_option maxRecDepth 100000 in
set_option maxHeartbeats 4000000 in
theorem tailC (ms rs : Nat → Int) (al x en px sh : Int) (w wE : World) (NB : Nat → Nat) (p1 p4 xn g len sc : Nat) (S : List Nat) (P : ByteArray) (an : Bool)
    (hms : ∀ k, k < 6 → 0 ≤ ms k ∧ ms k ≤ 255) (hal : 0 ≤ al ∧ al ≤ 255) (hen : 0 ≤ en ∧ en ≤ 255) (HS6 : Hid (∀ y ∈ S, y < 6)) (hlen7 : len ≤ 7) (hP : P.size ≤ 2)
    (HPP : Hid (w.heap.size + 1 = p1 ∧ w.heap.size + 4 = p4)) (HE : Hid (Built w wE ms rs al x en px sh NB 6))
    (HSG : Hid (∀ q (hq : q < S.length), wE.cell? ⟨g, q, none⟩ = some (.int .i64 (S[q] : Int)))) (HLEN : Hid (S.length = len))
    (HAN : Hid (an = want (vis (fun k => sel (pick ms k) 6) (fun k => sel (pick rs k) 6) S S.length) al en P sh))
    (u0 u2 u4 u5 u7 u8 u9 u10 u11 u12 u13 u15 u16 u20 u22 u23 u24 u25 u26 u27 u28 u29 u30 u31 u32 u33 u34 u35 u36 u37 u38 u39 u40 u41 u42 u43 u44 u45 u46 u47 u48 u49 u50 u51 u52 u53 u54 u55 u56 u57 u58 u59 u60 u61 u62 u63 u64 u65 u66 u67 u68 u69 u70 u71 u72 u73 u74 u75 u76 u77 u78 u79 u80 u81 u82 u83 u84 u85 u86 u87 u88 u89 u90 u91 u92 u93 u94 u95 u96 u97 u98 u99 u100 u101 u102 u103 u104 u105 u106 u107 u108 u109 u110 u111 u112 u113 u114 u115 u116 u117 u118 u119 u120 u121 u122 u123 u124 u125 u126 u127 u128 u129 u130 u131 u132 u133 u134 u135 u136 u137 u138 u139 u140 u141 u142 u143 u144 u145 u146 u147 u148 u149 u150 u151 u152 u153 u154 u155 u156 u157 u158 u159 u160 u161 u162 u163 u164 u165 u166 u167 u168 u169 u170 u171 u172 u173 u174 u175 u176 u177 u178 u179 u180 u181 u182 u183 u184 u185 u186 u187 u188 u189 u190 u191 u192 u193 u194 u195 u196 u197 u198 u199 u200 u201 u202 u203 u204 u205 u206 u207 u208 u209 u210 u211 u212 u213 u214 u215 u216 u217 u218 u219 u220 u221 u222 u223 u224 u225 u226 u227 u228 u229 u230 u231 u232 u233 u234 u235 u236 u237 u238 u239 u240 u241 u242 u243 u244 u245 u246 u247 u248 : Value) :
    Code.wp Yba.prog (peel 16 (Yba.f4.body.getD .skip)) (bodyPostM Fence.wide 10 Yba.prog Yba.f4 fun e w' => e = .returned (.bool true) ∧ Below w.heap.size w w')
      { tmps := #[u0, .pointer (some ⟨w.heap.size, 0, none⟩), u2, .pointer (some ⟨p1, 0, none⟩), u4, u5, .pointer (some ⟨p4, 0, none⟩), u7, u8, u9, u10, u11, u12, u13, .int .i64 (xn : Int), u15, u16, .string P, .bool an, .slice (some ⟨g, 0, none⟩) len sc, u20, .pointer (some ⟨wE.heap.size, 0, none⟩), u22, u23, u24, u25, u26, u27, u28, u29, u30, u31, u32, u33, u34, u35, u36, u37, u38, u39, u40, u41, u42, u43, u44, u45, u46, u47, u48, u49, u50, u51, u52, u53, u54, u55, u56, u57, u58, u59, u60, u61, u62, u63, u64, u65, u66, u67, u68, u69, u70, u71, u72, u73, u74, u75, u76, u77, u78, u79, u80, u81, u82, u83, u84, u85, u86, u87, u88, u89, u90, u91, u92, u93, u94, u95, u96, u97, u98, u99, u100, u101, u102, u103, u104, u105, u106, u107, u108, u109, u110, u111, u112, u113, u114, u115, u116, u117, u118, u119, u120, u121, u122, u123, u124, u125, u126, u127, u128, u129, u130, u131, u132, u133, u134, u135, u136, u137, u138, u139, u140, u141, u142, u143, u144, u145, u146, u147, u148, u149, u150, u151, u152, u153, u154, u155, u156, u157, u158, u159, u160, u161, u162, u163, u164, u165, u166, u167, u168, u169, u170, u171, u172, u173, u174, u175, u176, u177, u178, u179, u180, u181, u182, u183, u184, u185, u186, u187, u188, u189, u190, u191, u192, u193, u194, u195, u196, u197, u198, u199, u200, u201, u202, u203, u204, u205, u206, u207, u208, u209, u210, u211, u212, u213, u214, u215, u216, u217, u218, u219, u220, u221, u222, u223, u224, u225, u226, u227, u228, u229, u230, u231, u232, u233, u234, u235, u236, u237, u238, u239, u240, u241, u242, u243, u244, u245, u246, u247, u248], defers := [] }
      (wE.alloc (.cells #[.bool false, .bool false, .bool false, .bool false, .bool false, .bool false] 65)) := by
  conv => arg 2; whnf
  go_wp2_with fail
  have hV0 := VisAt.start wE
  generalize World.alloc (World.alloc wE _) _ = W0 at hV0 ⊢
  obtain ⟨mem, hmem⟩ : ∃ mem : Nat → List Nat, (fun k => sel (pick ms k) 6) = mem := ⟨_, rfl⟩
  obtain ⟨rev, hrev⟩ : ∃ rev : Nat → List Nat, (fun k => sel (pick rs k) 6) = rev := ⟨_, rfl⟩
  rw [hmem, hrev] at HAN
  have HMEM : Hid _ := And.intro hmem hrev
  clear hmem hrev
  refine wp_loop_ghost_k (fun gh a W => ∃ (q : Nat) (ds : List Deferred) (Ds : List Nat) (u24 u25 u26 u27 u172 u173 u174 u175 u176 u177 u178 u179 u180 u181 u182 u183 u184 u185 u186 u187 u188 u189 u190 u191 u192 u193 u194 u195 u196 u197 u198 u199 u200 u201 u202 u203 u204 u205 u206 u207 u208 : Value), gh + q = len ∧ a = { tmps := #[u0, .pointer (some ⟨w.heap.size, 0, none⟩), u2, .pointer (some ⟨p1, 0, none⟩), u4, u5, .pointer (some ⟨p4, 0, none⟩), u7, u8, u9, u10, u11, u12, u13, .int .i64 (xn : Int), u15, u16, .string P, .bool an, .slice (some ⟨g, 0, none⟩) len sc, u20, .pointer (some ⟨wE.heap.size, 0, none⟩), .pointer (some ⟨wE.heap.size + 1, 0, none⟩), u23, u24, u25, u26, u27, u28, u29, u30, u31, u32, u33, u34, u35, u36, u37, u38, u39, u40, u41, u42, u43, u44, u45, u46, u47, u48, u49, u50, u51, u52, u53, u54, u55, u56, u57, u58, u59, u60, u61, u62, u63, u64, u65, u66, u67, u68, u69, u70, u71, u72, u73, u74, u75, u76, u77, u78, u79, u80, u81, u82, u83, u84, u85, u86, u87, u88, u89, u90, u91, u92, u93, u94, u95, u96, u97, u98, u99, u100, u101, u102, u103, u104, u105, u106, u107, u108, u109, u110, u111, u112, u113, u114, u115, u116, u117, u118, u119, u120, u121, u122, u123, u124, u125, u126, u127, u128, u129, u130, u131, u132, u133, u134, u135, u136, u137, u138, u139, u140, u141, u142, u143, u144, u145, u146, u147, u148, u149, u150, u151, u152, u153, u154, u155, u156, u157, u158, u159, u160, u161, u162, u163, u164, u165, u166, u167, u168, .slice (some ⟨g, 0, none⟩) len sc, .int .i64 (len : Int), .int .i64 (q : Int), u172, u173, u174, u175, u176, u177, u178, u179, u180, u181, u182, u183, u184, u185, u186, u187, u188, u189, u190, u191, u192, u193, u194, u195, u196, u197, u198, u199, u200, u201, u202, u203, u204, u205, u206, u207, u208, u209, u210, u211, u212, u213, u214, u215, u216, u217, u218, u219, u220, u221, u222, u223, u224, u225, u226, u227, u228, u229, u230, u231, u232, u233, u234, u235, u236, u237, u238, u239, u240, u241, u242, u243, u244, u245, u246, u247, u248], defers := ds } ∧ Marks wE.heap.size W.heap.size ds W Ds ∧ VisAt wE W (vis mem rev S q) (decide (vis mem rev S q ≠ []))) len ?start ?round
  case start =>
    have hv : vis mem rev S 0 = [] := by simp [vis]
    exact ⟨0, [], [], _, _, _, _, _, _, _, _, _, _, _, _, _, _, _, _, _, _, _, _, _, _, _, _, _, _, _, _, _, _, _, _, _, _, _, _, _, _, _, _, _, rfl, rfl, Marks.nil _ _ _, by rw [hv]; exact hV0⟩
  case round =>
    clear hV0 u24 u25 u26 u27 u172 u173 u174 u175 u176 u177 u178 u179 u180 u181 u182 u183 u184 u185 u186 u187 u188 u189 u190 u191 u192 u193 u194 u195 u196 u197 u198 u199 u200 u201 u202 u203 u204 u205 u206 u207 u208
    rintro gQ a W2 ⟨q, ds, Ds, u24, u25, u26, u27, u172, u173, u174, u175, u176, u177, u178, u179, u180, u181, u182, u183, u184, u185, u186, u187, u188, u189, u190, u191, u192, u193, u194, u195, u196, u197, u198, u199, u200, u201, u202, u203, u204, u205, u206, u207, u208, hgq, rfl, hMk, hV⟩ J K hJ hK2
    have HJ : Hid _ := hJ
    have HGQ : Hid _ := hgq
    clear hJ hgq
    by_cases hq : q < len
    · have hq' : (q : Int) < (len : Int) := by omega
      have hqS : q < S.length := by rw [HLEN.out]; exact hq
      obtain ⟨n0, hn0⟩ : ∃ n0, S[q] = n0 := ⟨_, rfl⟩
      have hn6 : n0 < 6 := by rw [← hn0]; exact HS6.out _ (List.getElem_mem hqS)
      have hcq : W2.cell? ⟨g, q, none⟩ = some (.int .i64 (n0 : Int)) := by
        have h := cell_keep (HSG.out q hqS) hV.below
        rw [hn0] at h; exact h
      obtain ⟨vq, hvq⟩ : ∃ vq, vis mem rev S q = vq := ⟨_, rfl⟩
      rw [hvq] at hV
      have HVQ : Hid _ := And.intro hvq hn0
      have HV : Hid _ := And.intro hMk hV
      clear hvq hn0 hMk hV
      go_wp2_with fail
      clear hcq
      go_loopg [25] 6 (fun g8 kv wr2 => ∃ k : Nat, g8 + k = 6 ∧ kv = .int .i64 (k : Int) ∧ VisAt wE wr2 (vq ++ sel (pick ms n0) k) (decide (vq ++ sel (pick ms n0) k ≠ [])) ∧ Marks wE.heap.size W2.heap.size ds wr2 Ds ∧ wr2.heap.size = W2.heap.size)
      case atStart => exact ⟨0, rfl, rfl, by rw [show sel (pick ms n0) 0 = [] from rfl, List.append_nil]; exact HV.out.2, HV.out.1, rfl⟩
      case round =>
        obtain ⟨k, hgk, rfl, hv, hmk, hsz⟩ := hrel
        have HGK : Hid _ := hgk
        clear hgk
        by_cases hk : k < 6
        · have hk' : (k : Int) < 6 := by omega
          have hBr := HE.out.keep hv.below
          have c0 : wr.cell? ⟨w.heap.size, n0, none⟩ = some (.int .u8 (ms n0)) := by simp [World.cell?, hBr.q0, ms_at ms rs al x en px sh n0 hn6]
          have HBI : Hid _ := bitGo (ms n0) k wr (hms n0 hn6).1 (hms n0 hn6).2 hk
          obtain ⟨cv, fv⟩ := hv.cell k hk
          have hv1 := hv.mark k hk
          obtain ⟨ca, fa⟩ := hv1.cellA
          have HR : Hid _ := And.intro hv (And.intro hmk hsz)
          clear hBr hv hmk hsz hv1
          by_cases e : k = n0
          · have e' : ((k : Int) != (n0 : Int)) = false := by simp [e]
            go_wp2_with fail
            go_roundg (gk - 1)
            case measure => have := HGK.out; omega
            case rel =>
              have hs : sel (pick ms n0) (k + 1) = sel (pick ms n0) k := by rw [sel_succ]; simp [pick, e]
              exact ⟨k + 1, by have := HGK.out; omega, by go_num, by rw [hs]; exact HR.out.1, HR.out.2.1, HR.out.2.2⟩
          · have e' : ((k : Int) != (n0 : Int)) = true := by simp; omega
            go_wp2_with fail
            refine Calls.mono HBI.out ?_
            rintro e2 w2 ⟨rfl, hw2⟩
            subst hw2
            cases hbit : bit (ms n0) k with
            | false =>
              go_wp2_with fail
              go_roundg (gk - 1)
              case measure => have := HGK.out; omega
              case rel =>
                have hs : sel (pick ms n0) (k + 1) = sel (pick ms n0) k := by rw [sel_succ]; simp [pick, hbit]
                exact ⟨k + 1, by have := HGK.out; omega, by go_num, by rw [hs]; exact HR.out.1, HR.out.2.1, HR.out.2.2⟩
            | true =>
              go_wp2_with fail
              go_roundg (gk - 1)
              case measure => have := HGK.out; omega
              case rel =>
                obtain ⟨hv, hmk, hsz⟩ := HR.out
                have hs : sel (pick ms n0) (k + 1) = sel (pick ms n0) k ++ [k] := by rw [sel_succ]; simp [pick, hbit, e]
                have h1 := (hv.mark k hk).setAny
                have h2 := (hv.mark k hk).marksA (hv.marks hmk k (.bool true)) (.bool true)
                refine ⟨k + 1, by have := HGK.out; omega, by go_num, ?_, h2, by simpa [World.setCell] using hsz⟩
                rw [hs, ← List.append_assoc, show decide (vq ++ sel (pick ms n0) k ++ [k] ≠ []) = true by simp]; exact h1
        · have hk' : ¬ (k : Int) < 6 := by omega
          have hk6 : k = 6 := by have := HGK.out; omega
          subst hk6
          obtain ⟨W3, rfl⟩ : ∃ W3, W3 = wr := ⟨_, rfl⟩
          obtain ⟨vr, hvr⟩ : ∃ vr, vq ++ sel (pick ms n0) 6 = vr := ⟨_, rfl⟩
          rw [hvr] at hv
          have hBr := HE.out.keep hv.below
          have c4 : W3.cell? ⟨p4, n0, none⟩ = some (.pointer (some ⟨NB n0, 0, none⟩)) := by
            obtain ⟨nd, n1, n2, n3⟩ := hBr.q4
            rw [← HPP.out.2]; simp [World.cell?, n1, n3 n0 hn6]
          have HVR : Hid _ := And.intro hvr (And.intro hv (And.intro hmk hsz))
          have HRV : Hid _ := fun W => reverse_in 9 (NB n0) W
          clear hvr hv hmk hsz hBr hk hk' HGK
          go_wp2_with fail
          refine Calls.mono ((callsIn_wide (n := 9)).1 (HRV.out W3)) ?_
          rintro e w5 ⟨rfl, hw5⟩
          obtain ⟨hvr, hv, hmk, hsz⟩ := HVR.out
          have hv5 : VisAt wE w5 vr (decide (vr ≠ [])) := by
            rw [hw5]
            exact hv.keep ((Below.refl _ _).alloc hv.below.size _) (fun b ob hb _ => (Below.heap_alloc _ _ _ (Array.getElem?_eq_some_iff.1 hb).1).trans hb)
          have hmk5 : Marks wE.heap.size w5.heap.size ds w5 Ds := hmk.keep (by rw [hw5]; simp; omega) (fun D hD h => by rw [hw5]; exact (Below.heap_alloc _ _ _ (by omega)).trans h)
          have lA : wE.heap.size + 1 < W3.heap.size := (Array.getElem?_eq_some_iff.1 hv.a).1
          generalize hBr : W3.heap.size = Br
          have lBr : Br < w5.heap.size := by rw [hw5, ← hBr]; simp
          have hB1 : wE.heap.size + 1 < Br := by omega
          have cBr : w5.heap[Br]? = some (.cells #[.pointer (some ⟨NB n0, 50, none⟩)] 129 (0, 0)) := by rw [hw5, ← hBr]; exact heap_alloc_new _ _
          obtain ⟨_, _, _, r₁, ov', iv', hRev'⟩ := HE.out.nodes n0 hn6
          obtain ⟨xr, hxr⟩ : ∃ xr : List K6, xr.map (·.1) = sel (pick rs n0) 6 := ⟨(sel (pick rs n0) 6).attach.map (fun y => ⟨y.1, hRev'.six y.1 y.2⟩), by simp [List.map_map, Function.comp_def]⟩
          clear hw5 hvr hv hmk hsz lA hBr c4
          have HV5 : Hid _ := And.intro hv5 (And.intro hmk5 cBr)
          clear hv5 hmk5 cBr
          go_wp2_with fail
          refine (wpIn_wide (n := 10)).1 ?_
          refine wpIn_rangeFunc_ownG rfl (by omega) (gf := 43) (lb := #[.pointer (some ⟨Br, 0, none⟩)]) rfl trivial (enters_of Yba.func43 (by kernel_rfl) rfl)
            (all_stops 9 (by omega) Br wE.heap.size r₁ (NB n0) ov' iv' (sel (pick rs n0) 6) xr hxr w5 lBr HV5.out.1.below.size (by simp [World.cell?, HV5.out.2.2]) (fun W' hW' => hRev'.keep (HV5.out.1.below.trans hW')))
            KpB.trans (fun W l o o' hl ho hc _ => ⟨belowK_b (w := w5) HV5.out.1.below.size W l o o' hl ho hc (by assumption), World.putObj_heap_other (by omega)⟩) (Below.refl _ _) (fun _ => rfl)
            (fun pre W => VisAt wE W (vr ++ vals pre) (decide (vr ++ vals pre ≠ [])) ∧ Marks wE.heap.size w5.heap.size ds W Ds ∧ W.heap[Br]? = some (.cells #[.pointer (some ⟨NB n0, 50, none⟩)] 129 (0, 0)))
            (fun _ _ _ => False) ?ownI ?ownX ⟨by rw [vals_nil]; exact HV5.out.1, HV5.out.2.1, HV5.out.2.2⟩ ?a₁ ?assign ?body ?done ?stop
          case ownI =>
            rintro pre W W' row ⟨h1, h2, h3⟩ hg hr
            exact ⟨h1.keep (own_below hg hr HV5.out.1.below.size h1.below.size) (own_cells hg hr), h2.keep (Nat.le_refl _) (fun D hD h => (hg.block D (Array.getElem?_eq_some_iff.1 h).1 (fun e => by have := (hr D e.symm).1; omega)).trans h), own_cells hg hr _ _ h3 rfl⟩
          case ownX =>
            rintro c pre W W' row h hg hr
            exact h
          case assign =>
            intro l y W K hK
            gi_wp2
            exact hK
          case body =>
            rintro l pre ⟨k, hk⟩ W ⟨hv, hmk, hB⟩ hlen
            obtain ⟨ca, fa⟩ := hv.cellA
            have HB : Hid _ := And.intro hv (And.intro hmk hB)
            clear hv hmk hB
            obtain ⟨X, hX⟩ : ∃ X, idB k = X := ⟨_, rfl⟩
            simp only [hX]
            have HX : Hid _ := hX
            clear hX
            gi_wp2_with fail
            have hs0 : VisAt wE (W.setCell ⟨wE.heap.size + 1, 0, none⟩ (.bool true)) (vr ++ vals pre) true ∧ Marks wE.heap.size w5.heap.size ds (W.setCell ⟨wE.heap.size + 1, 0, none⟩ (.bool true)) Ds ∧ (W.setCell ⟨wE.heap.size + 1, 0, none⟩ (.bool true)).heap[Br]? = some (.cells #[.pointer (some ⟨NB n0, 50, none⟩)] 129 (0, 0)) ∧ KeepsFrom w5.heap.size W (W.setCell ⟨wE.heap.size + 1, 0, none⟩ (.bool true)) ∧ KpB wE.heap.size Br W (W.setCell ⟨wE.heap.size + 1, 0, none⟩ (.bool true)) :=
              ⟨HB.out.1.setAny, HB.out.1.marksA HB.out.2.1 _, (Below.heap_setCell _ _ _ _ (by simp; omega)).trans HB.out.2.2, keeps_set _ _ _ _, kpb_set _ _ _ (by omega) (by omega)⟩
            obtain ⟨vl, hvl⟩ : ∃ vl, vr ++ vals pre = vl := ⟨_, rfl⟩
            rw [hvl] at hs0
            clear ca fa
            generalize W.setCell ⟨wE.heap.size + 1, 0, none⟩ (.bool true) = Wb at hs0 ⊢
            gi_loopg [27] 6 (fun g9 kv wr2 => ∃ i : Nat, g9 + i = 6 ∧ kv = .int .i64 (i : Int) ∧ VisAt wE wr2 (vl ++ (if k < i then [k] else [])) true ∧ Marks wE.heap.size w5.heap.size ds wr2 Ds ∧ wr2.heap[Br]? = some (.cells #[.pointer (some ⟨NB n0, 50, none⟩)] 129 (0, 0)) ∧ KeepsFrom w5.heap.size W wr2 ∧ KpB wE.heap.size Br W wr2)
            case atStart => exact ⟨0, rfl, rfl, by simpa using hs0.1, hs0.2.1, hs0.2.2.1, hs0.2.2.2.1, hs0.2.2.2.2⟩
            case round =>
              clear hs0
              obtain ⟨i, hgi, rfl, hv, hmk, hB, hkf, hkp⟩ := hrel
              have HGI : Hid _ := hgi
              clear hgi
              by_cases hi : i < 6
              · have hi' : (i : Int) < 6 := by omega
                have hBr := HE.out.keep hv.below
                have c1 : wr.cell? ⟨p1, i, none⟩ = some (.string (idB i)) := by rw [← HPP.out.1]; simp [World.cell?, hBr.q1, ids_at i hi]
                obtain ⟨cv, fv⟩ := hv.cell i hi
                have HR : Hid _ := And.intro hv (And.intro hmk (And.intro hB (And.intro hkf hkp)))
                clear hv hmk hB hkf hkp hBr
                have heq := idB_eq i hi k hk
                obtain ⟨Y, hY⟩ : ∃ Y, idB i = Y := ⟨_, rfl⟩
                rw [hY, HX.out] at heq
                rw [hY] at c1
                clear hY
                by_cases e : i = k
                · have e' : (Y.toList == X.toList) = true := by rw [heq]; simp [e]
                  have HIK : Hid _ := e
                  clear heq e
                  gi_wp2_with fail
                  gi_roundg (gk - 1)
                  case measure => have := HGI.out; omega
                  case rel =>
                    obtain ⟨hv, hmk, hB, hkf, hkp⟩ := HR.out
                    have e : i = k := HIK.out
                    refine ⟨i + 1, by have := HGI.out; omega, by go_num, (hv.mark i hi).same (fun y _ => ?_), hv.marks hmk i _, (Below.heap_setCell _ _ _ _ (by simp; omega)).trans hB, hkf.trans (keeps_set _ _ _ _), hkp.trans (kpb_set _ _ _ (Nat.le_refl _) (by omega))⟩
                    rw [if_neg (by omega), if_pos (by omega), e]; simp
                · have e' : (Y.toList == X.toList) = false := by rw [heq]; simp [e]
                  have HIK : Hid _ := e
                  clear heq e
                  gi_wp2_with fail
                  gi_roundg (gk - 1)
                  case measure => have := HGI.out; omega
                  case rel =>
                    obtain ⟨hv, hmk, hB, hkf, hkp⟩ := HR.out
                    have e : ¬ i = k := HIK.out
                    refine ⟨i + 1, by have := HGI.out; omega, by go_num, ?_, hmk, hB, hkf, hkp⟩
                    have hif : (if k < i + 1 then [k] else []) = (if k < i then [k] else []) := by
                      by_cases h : k < i
                      · rw [if_pos h, if_pos (by omega)]
                      · rw [if_neg h, if_neg (by omega)]
                    rw [hif]; exact hv
              · have hi' : ¬ (i : Int) < 6 := by omega
                have hi6 : i = 6 := by have := HGI.out; omega
                subst hi6
                have HR : Hid _ := And.intro hv (And.intro hmk (And.intro hB (And.intro hkf hkp)))
                clear hv hmk hB hkf hkp
                gi_wp2_with fail
                obtain ⟨hv, hmk, hB, hkf, hkp⟩ := HR.out
                refine ⟨hkf, hkp, ?_, hmk, hB⟩
                have hb : (!decide (vr = []) || !decide (vals (pre ++ [(⟨k, hk⟩ : K6)]) = [])) = true := by simp [vals]
                have hl : vr ++ vals (pre ++ [(⟨k, hk⟩ : K6)]) = vl ++ [k] := by rw [← hvl]; simp [vals]
                rw [if_pos hk] at hv
                rw [hb, hl]; exact hv
          case stop =>
            rintro D c pre W _ _ h _
            exact h.elim
          case done =>
            rintro D ys W hD rfl ⟨hv, hmk, hB⟩ hK
            have hD' : D < W.heap.size := (Array.getElem?_eq_some_iff.1 hK).1
            have hmk' := hmk.cons (hi' := W.heap.size) hD HV5.out.1.below.size hD' hK
            have hvn : vr ++ vals ys = vis mem rev S (q + 1) := by
              rw [vis_succ mem rev S hqS, HVQ.out.1, HVQ.out.2, ← HVR.out.1, ← HMEM.out.1, ← HMEM.out.2, List.append_assoc]
              show _ ++ (_ ++ vals ys) = _ ++ (sel (pick ms n0) 6 ++ sel (pick rs n0) 6)
              rw [← hxr]; rfl
            rw [hvn] at hv
            have HR : Hid _ := And.intro hv hmk'
            clear hv hmk hmk' hB hK hD hD' hvn HV5
            have hqb : (q : Int) < 8 := by omega
            go_wp2_with fail
            refine Handed.intro (gQ - 1) ?_ (HJ.out _ _ _ ?_)
            · have := HGQ.out; omega
            · exact ⟨q + 1, _, D :: Ds, _, _, _, _, _, _, _, _, _, _, _, _, _, _, _, _, _, _, _, _, _, _, _, _, _, _, _, _, _, _, _, _, _, _, _, _, _, _, _, _, _, by have := HGQ.out; omega, by rw [show ((q + 1 : Nat) : Int) = (q : Int) + 1 from rfl], HR.out.2, HR.out.1⟩
    · have hq' : ¬ (q : Int) < (len : Int) := by omega
      have hql : q = len := by have := HGQ.out; omega
      obtain ⟨vl, hvl⟩ : ∃ vl, vis mem rev S len = vl := ⟨_, rfl⟩
      rw [hql, hvl] at hV
      have h1 := HAN.out
      rw [HLEN.out, hvl] at h1
      have HW : Hid _ := h1
      have HV : Hid _ := And.intro hV hMk
      clear hV hMk hvl h1 HJ
      go_wp2_with fail
      go_loopg [28, 29] 6 (fun g10 cv kv wr2 => ∃ k : Nat, g10 + k = 6 ∧ cv = .int .i64 ((sel (counts vl al en P) k).length : Int) ∧ kv = .int .i64 (k : Int) ∧ wr2 = W2)
      case atStart => exact ⟨0, rfl, rfl, rfl, rfl⟩
      case round =>
        obtain ⟨k, hgk, rfl, rfl, hwr⟩ := hrel
        subst hwr
        have HGK : Hid _ := hgk
        clear hgk
        obtain ⟨hV, hMk⟩ := HV.out
        have hBr := HE.out.keep hV.below
        by_cases hk : k < 6
        · have hk' : (k : Int) < 6 := by omega
          have cv := (hV.cell k hk).1
          have c1 : wr.cell? ⟨p1, k, none⟩ = some (.string (idB k)) := by rw [← HPP.out.1]; simp [World.cell?, hBr.q1, ids_at k hk]
          have c12 : wr.cell? ⟨w.heap.size, 12, none⟩ = some (.int .u8 al) := by simp [World.cell?, hBr.q0, inArr]
          have c14 : wr.cell? ⟨w.heap.size, 14, none⟩ = some (.int .u8 en) := by simp [World.cell?, hBr.q0, inArr]
          have HBA : Hid _ := bitGo al k wr hal.1 hal.2 hk
          have HBE : Hid _ := bitGo en k wr hen.1 hen.2 hk
          have HHP : Hid _ := hasPrefix (idB k) P wr (idB_size k hk) hP
          have hln := sel_len (counts vl al en P) k
          have hcn : counts vl al en P k = (decide (k ∈ vl) && bit al k && hp (idB k) P && !bit en k) := rfl
          have hss := sel_succ (counts vl al en P) k
          obtain ⟨n, hn⟩ : ∃ n, (sel (counts vl al en P) k).length = n := ⟨_, rfl⟩
          have hss' : (sel (counts vl al en P) (k + 1)).length = if counts vl al en P k then n + 1 else n := by rw [hss, ← hn]; split <;> simp
          obtain ⟨Y, hY⟩ : ∃ Y, idB k = Y := ⟨_, rfl⟩
          rw [hY] at c1 HHP hcn
          rw [hn] at hln
          simp only [hn]
          have HSS : Hid _ := And.intro hss' hcn
          clear hV hMk hBr hn hss hss' hcn hY
          cases hv : decide (k ∈ vl) with
          | false =>
            rw [hv] at cv
            go_wp2_with fail
            go_roundg (gk - 1)
            case measure => have := HGK.out; omega
            case rel => exact ⟨k + 1, by have := HGK.out; omega, by rw [HSS.out.1, HSS.out.2, hv]; simp, by go_num, rfl⟩
          | true =>
            rw [hv] at cv
            go_wp2_with fail
            refine Calls.mono HBA.out ?_
            rintro e2 w2 ⟨rfl, hw2⟩
            subst hw2
            cases ha : bit al k with
            | false =>
              go_wp2_with fail
              go_roundg (gk - 1)
              case measure => have := HGK.out; omega
              case rel => exact ⟨k + 1, by have := HGK.out; omega, by rw [HSS.out.1, HSS.out.2, hv, ha]; simp, by go_num, rfl⟩
            | true =>
              go_wp2_with fail
              refine Calls.mono HHP.out ?_
              rintro e3 w3 ⟨rfl, hw3⟩
              subst hw3
              cases hh : hp Y P with
              | false =>
                go_wp2_with fail
                go_roundg (gk - 1)
                case measure => have := HGK.out; omega
                case rel => exact ⟨k + 1, by have := HGK.out; omega, by rw [HSS.out.1, HSS.out.2, hv, ha, hh]; simp, by go_num, rfl⟩
              | true =>
                go_wp2_with fail
                refine Calls.mono HBE.out ?_
                rintro e4 w4 ⟨rfl, hw4⟩
                subst hw4
                cases he : bit en k with
                | true =>
                  go_wp2_with fail
                  go_roundg (gk - 1)
                  case measure => have := HGK.out; omega
                  case rel => exact ⟨k + 1, by have := HGK.out; omega, by rw [HSS.out.1, HSS.out.2, hv, ha, hh, he]; simp, by go_num, rfl⟩
                | false =>
                  go_wp2_with fail
                  go_roundg (gk - 1)
                  case measure => have := HGK.out; omega
                  case rel => exact ⟨k + 1, by have := HGK.out; omega, by rw [HSS.out.1, HSS.out.2, hv, ha, hh, he]; simp, by go_num, rfl⟩
        · have hk' : ¬ (k : Int) < 6 := by omega
          have hk6 : k = 6 := by have := HGK.out; omega
          subst hk6
          have c16 : wr.cell? ⟨w.heap.size, 16, none⟩ = some (.int .i64 sh) := by simp [World.cell?, hBr.q0, inArr]
          have ca := hV.cellA.1
          obtain ⟨n, hn⟩ : ∃ n, (sel (counts vl al en P) 6).length = n := ⟨_, rfl⟩
          have hw := HW.out
          simp only [want, hn] at hw
          simp only [hn]
          have HWW : Hid _ := hw
          clear hV hMk hBr hw hn
          by_cases h0 : sh ≤ 0
          · go_wp2_with fail
            obtain ⟨hV, hMk⟩ := HV.out
            have hw := HWW.out
            rw [if_pos h0] at hw
            refine leaves_marks Ds _ _ hMk (fun W5 hfr5 => ⟨.bool true, res4 _ W5 true ?_, rfl, (HE.out.below.trans (hV.below.mono HE.out.below.size)).trans ((hfr5.below hV.below.size (fun b hb => (hMk.at' b hb).1)).mono HE.out.below.size)⟩)
            show Value.bool (an == !decide (vl = [])) = .bool true
            rw [hw]; simp
          · go_wp2_with fail
            obtain ⟨hV, hMk⟩ := HV.out
            have hw := HWW.out
            rw [if_neg (by omega)] at hw
            refine leaves_marks Ds _ _ hMk (fun W5 hfr5 => ⟨.bool true, res4 _ W5 true ?_, rfl, (HE.out.below.trans (hV.below.mono HE.out.below.size)).trans ((hfr5.below hV.below.size (fun b hb => (hMk.at' b hb).1)).mono HE.out.below.size)⟩)
            show Value.bool (an == decide (sh ≤ (n : Int))) = .bool true
            rw [hw]; simp

end Go.Proofs.Ybulkckim
