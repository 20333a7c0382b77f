/- THE CONTRACTS OF strings.Join AND strconv.Itoa AT THIS DUMP: laid by the kit (lay-shelf, lay-plain), in plain words; the variable is named by the row itself. -/
import Derived.Shelf.Strings.OnBuilder
import Derived.Shelf.LaysM
import Derived.Shelf.Strconv.Itoa3
import Derived.Test.YbulkckqoDoorRows
namespace Go.Proofs
open Go.Shelf
/-- The library's table of the powers of ten, by the row's own word for it. -/
abbrev YbulkckqoDoor.powName : String := YbulkckqoDoor.Rows.lawS4330ATextRow.named.getD 0 YbulkckqoDoor.Rows.lawS4330ATextRow.func
def Ybad.lays156_ren : Go.Shelf.Ren := ⟨fun | 156 => 7 | 165 => 9 | 166 => 10 | 169 => 11 | 240 => 13 | 241 => 14 | 276 => 19 | 277 => 20 | n => n, fun | 31 => 31 | 9 => 9 | 3 => 3 | 4 => 4 | 0 => 0 | 20 => 20 | 72 => 37 | 76 => 41 | 70 => 35 | 37 => 27 | 75 => 40 | 127 => 44 | 164 => 49 | 5 => 5 | 80 => 26 | n => n, fun | n => n⟩
theorem Ybad.lays156 : Go.Proofs.Lays.n156 Ybad.prog Ybad.lays156_ren := {
  mixed := by kernel_rfl
  f156 := Ybad.func7.trans (congrArg some (by kernel_rfl))
  f165 := Ybad.func9.trans (congrArg some (by kernel_rfl))
  f166 := Ybad.func10.trans (congrArg some (by kernel_rfl))
  f169 := Ybad.func11.trans (congrArg some (by kernel_rfl))
  f240 := Ybad.func13.trans (congrArg some (by kernel_rfl))
  f241 := Ybad.func14.trans (congrArg some (by kernel_rfl))
  f276 := Ybad.func19.trans (congrArg some (by kernel_rfl))
  f277 := Ybad.func20.trans (congrArg some (by kernel_rfl))
  t0 := Ybad.underlying0
  a0 := Ybad.isAgg0
  z0 := Ybad.sizeOf0
  v0 := Ybad.zeroValue0
  t3 := Ybad.underlying3
  a3 := Ybad.isAgg3
  z3 := Ybad.sizeOf3
  v3 := Ybad.zeroValue3
  t4 := Ybad.underlying4
  a4 := Ybad.isAgg4
  z4 := Ybad.sizeOf4
  v4 := Ybad.zeroValue4
  t9 := Ybad.underlying9
  a9 := Ybad.isAgg9
  z9 := Ybad.sizeOf9
  v9 := Ybad.zeroValue9
  t20 := Ybad.underlying20
  a20 := Ybad.isAgg20
  z20 := Ybad.sizeOf20
  v20 := Ybad.zeroValue20
  t31 := Ybad.underlying31
  a31 := Ybad.isAgg31
  z31 := Ybad.sizeOf31
  v31 := Ybad.zeroValue31
  t37 := Ybad.underlying27
  a37 := Ybad.isAgg27
  z37 := Ybad.sizeOf27
  v37 := Ybad.zeroValue27
  t70 := Ybad.underlying35
  a70 := Ybad.isAgg35
  z70 := Ybad.sizeOf35
  v70 := Ybad.zeroValue35
  t72 := Ybad.underlying37
  a72 := Ybad.isAgg37
  z72 := Ybad.sizeOf37
  v72 := Ybad.zeroValue37
  t75 := Ybad.underlying40
  a75 := Ybad.isAgg40
  z75 := Ybad.sizeOf40
  v75 := Ybad.zeroValue40
  t76 := Ybad.underlying41
  a76 := Ybad.isAgg41
  z76 := Ybad.sizeOf41
  v76 := Ybad.zeroValue41
  t127 := Ybad.underlying44
  a127 := Ybad.isAgg44
  z127 := Ybad.sizeOf44
  v127 := Ybad.zeroValue44
  t164 := Ybad.underlying49
  a164 := Ybad.isAgg49
  z164 := Ybad.sizeOf49
  v164 := Ybad.zeroValue49 }
theorem Ybad.Builder_Extra_156 : Builder.Extra Ybad.prog Ybad.lays156_ren := {
  sizeBuilder := by kernel_rfl
  liesBuilder := by kernel_rfl
  t5 := Ybad.underlying5
  a5 := Ybad.isAgg5
  z5 := Ybad.sizeOf5
  v5 := Ybad.zeroValue5
  infoByte := by kernel_rfl
  cellsByte := by kernel_rfl
  sizeByte := by kernel_rfl
  neB5 := by decide }
open Go.RowKit in
theorem Ybad.strings_Join_none (a : Option Addr) (c : Nat) (sep : ByteArray) (w : World) :
    Calls Ybad.prog 7 #[.slice a 0 c, .string sep] w fun e w' => e = .returned (.string ⟨#[]⟩) ∧ w' = w := Any.strings_Join_none Ybad.lays156 Ybad.Builder_Extra_156 a c sep w
open Go.RowKit in
theorem Ybad.strings_Join (bk o c : Nat) (xs : List ByteArray) (sep : ByteArray) (w : World) (hcells : ∀ (j : Nat) x, xs[j]? = some x → w.cell? ⟨bk, o + j, none⟩ = some (.string x)) (hbk : bk < w.heap.size) (hN : xs.length ≤ 140737488355328) (hcap : xs.length ≤ c) (hlen : (Lib.join (xs.map (·.data.toList)) sep.data.toList).length ≤ 140737488355328) :
    Calls Ybad.prog 7 #[.slice (some ⟨bk, o, none⟩) xs.length c, .string sep] w fun e w' => e = .returned (.string ⟨(Lib.join (xs.map (·.data.toList)) sep.data.toList).toArray⟩) ∧ Below w.heap.size w w' := Any.strings_Join Ybad.lays156 Ybad.Builder_Extra_156 bk o c xs sep w hcells hbk hN hcap hlen
def Ybad.laysM171_ren : Go.Shelf.Ren := ⟨fun | 171 => 6 | 243 => 8 | 246 => 12 | 283 => 15 | 284 => 16 | 285 => 17 | 286 => 18 | 129 => 22 | 317 => 21 | 318 => 23 | 319 => 24 | 320 => 25 | 337 => 26 | 338 => 27 | n => n, fun | 3 => 3 | 9 => 9 | 2 => 2 | 4 => 4 | 171 => 34 | 0 => 0 | 53 => 33 | 37 => 27 | 5 => 5 | 173 => 47 | 212 => 54 | 51 => 55 | 20 => 20 | 213 => 56 | 46 => 58 | 232 => 61 | 233 => 62 | n => n, fun | 17 => 0 | 18 => 2 | 19 => 3 | n => n⟩
theorem Ybad.laysM171 : Go.Proofs.LaysM.n171 Ybad.prog Ybad.laysM171_ren := {
  mixed := by kernel_rfl
  f129 := Ybad.func22.trans (congrArg some (by kernel_rfl))
  f171 := Ybad.func6.trans (congrArg some (by kernel_rfl))
  f243 := Ybad.func8.trans (congrArg some (by kernel_rfl))
  f246 := Ybad.func12.trans (congrArg some (by kernel_rfl))
  f283 := Ybad.func15.trans (congrArg some (by kernel_rfl))
  f284 := Ybad.func16.trans (congrArg some (by kernel_rfl))
  f285 := Ybad.func17.trans (congrArg some (by kernel_rfl))
  f286 := Ybad.func18.trans (congrArg some (by kernel_rfl))
  f317 := Ybad.func21.trans (congrArg some (by kernel_rfl))
  f318 := Ybad.func23.trans (congrArg some (by kernel_rfl))
  f319 := Ybad.func24.trans (congrArg some (by kernel_rfl))
  f320 := Ybad.func25.trans (congrArg some (by kernel_rfl))
  f337 := Ybad.func26.trans (congrArg some (by kernel_rfl))
  f338 := Ybad.func27.trans (congrArg some (by kernel_rfl))
  t0 := Ybad.underlying0
  a0 := Ybad.isAgg0
  z0 := Ybad.sizeOf0
  v0 := Ybad.zeroValue0
  t2 := Ybad.underlying2
  a2 := Ybad.isAgg2
  z2 := Ybad.sizeOf2
  v2 := Ybad.zeroValue2
  t3 := Ybad.underlying3
  a3 := Ybad.isAgg3
  z3 := Ybad.sizeOf3
  v3 := Ybad.zeroValue3
  t4 := Ybad.underlying4
  a4 := Ybad.isAgg4
  z4 := Ybad.sizeOf4
  v4 := Ybad.zeroValue4
  t5 := Ybad.underlying5
  a5 := Ybad.isAgg5
  z5 := Ybad.sizeOf5
  v5 := Ybad.zeroValue5
  t9 := Ybad.underlying9
  a9 := Ybad.isAgg9
  z9 := Ybad.sizeOf9
  v9 := Ybad.zeroValue9
  t20 := Ybad.underlying20
  a20 := Ybad.isAgg20
  z20 := Ybad.sizeOf20
  v20 := Ybad.zeroValue20
  t37 := Ybad.underlying27
  a37 := Ybad.isAgg27
  z37 := Ybad.sizeOf27
  v37 := Ybad.zeroValue27
  t46 := Ybad.underlying58
  a46 := Ybad.isAgg58
  z46 := Ybad.sizeOf58
  v46 := Ybad.zeroValue58
  t51 := Ybad.underlying55
  a51 := Ybad.isAgg55
  z51 := Ybad.sizeOf55
  v51 := Ybad.zeroValue55
  t53 := Ybad.underlying33
  a53 := Ybad.isAgg33
  z53 := Ybad.sizeOf33
  v53 := Ybad.zeroValue33
  t171 := Ybad.underlying34
  a171 := Ybad.isAgg34
  z171 := Ybad.sizeOf34
  v171 := Ybad.zeroValue34
  t173 := Ybad.underlying47
  a173 := Ybad.isAgg47
  z173 := Ybad.sizeOf47
  v173 := Ybad.zeroValue47
  t212 := Ybad.underlying54
  a212 := Ybad.isAgg54
  z212 := Ybad.sizeOf54
  v212 := Ybad.zeroValue54
  t213 := Ybad.underlying56
  a213 := Ybad.isAgg56
  z213 := Ybad.sizeOf56
  t232 := Ybad.underlying61
  a232 := Ybad.isAgg61
  z232 := Ybad.sizeOf61
  v232 := Ybad.zeroValue61
  t233 := Ybad.underlying62
  a233 := Ybad.isAgg62
  z233 := Ybad.sizeOf62
  v233 := Ybad.zeroValue62
  g17 := by kernel_rfl
  g18 := by kernel_rfl
  g19 := by kernel_rfl
  i0 := by kernel_rfl
  i2 := by kernel_rfl
  i3 := by kernel_rfl
  i4 := by kernel_rfl
  i5 := by kernel_rfl
  i9 := by kernel_rfl
  i20 := by kernel_rfl
  i37 := by kernel_rfl
  i46 := by kernel_rfl
  i51 := by kernel_rfl
  i53 := by kernel_rfl
  i171 := by kernel_rfl
  i173 := by kernel_rfl
  i212 := by kernel_rfl
  i232 := by kernel_rfl
  i233 := by kernel_rfl
  m17 := by kernel_rfl
  m18 := by kernel_rfl
  m19 := by kernel_rfl }
open Go.RowKit Go.Sort Go.Lib in
theorem Ybad.strconv_Itoa (n : Int) (h0 : -9223372036854775808 ≤ n) (h1 : n ≤ 9223372036854775807) (w : World) (htab : Lib.TabIs Ybad.prog w YbulkckqoDoor.powName .u64 Lib.pow10Tab) :
    Calls Ybad.prog 6 #[.int .i64 n] w fun e w' => e = .returned (.string ⟨(Lib.itoa n).toArray⟩) ∧ ∃ k os, w' = grow (w.drewN k) os := Any.strconv_Itoa Ybad.laysM171 n h0 h1 w htab
end Go.Proofs
