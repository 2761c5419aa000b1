/-
  DERIVED: THE SHELF's CONTRACTS AT THIS DUMP, IN PLAIN WORDS (tools/lay-plain.mjs out of 'YbulkckwmFmtShelf.lean', which tools/lay-shelf.mjs wrote): THE SAME DECLARATIONS UNDER THE SAME NAMES: 'import', 'namespace', 'open', 'def', 'theorem' AND NOTHING ELSE: no command of the shelf's: FOR A HAND-IN. Each laying: the table of numbers ('.._ren') and one theorem, a field a fact of the dump's own or the kernel's comparison; each contract: ONE APPLICATION.
-/
import Derived.Shelf.Strings.OnBuilder
import Derived.Shelf.LaysM
import Derived.Shelf.Strconv.Itoa3
import Derived.Test.YbulkckwmFmtRows
namespace Go.Proofs
open Go.Shelf
/-- The name of the library's table of powers of ten, off the given row. -/
def YbulkckwmFmt.pow10Name : String := YbulkckwmFmt.Rows.lawS4341ATextRow.named.headD ""
def Ybaf.lays156_ren : Go.Shelf.Ren := ⟨fun | 156 => 10 | 165 => 12 | 166 => 13 | 169 => 14 | 240 => 16 | 241 => 17 | 276 => 22 | 277 => 23 | n => n, fun | 31 => 27 | 9 => 9 | 3 => 3 | 4 => 4 | 0 => 0 | 20 => 20 | 72 => 34 | 76 => 38 | 70 => 32 | 37 => 31 | 75 => 37 | 127 => 42 | 164 => 47 | 5 => 5 | 80 => 40 | n => n, fun | n => n⟩
theorem Ybaf.lays156 : Go.Proofs.Lays.n156 Ybaf.prog Ybaf.lays156_ren := {
  mixed := by kernel_rfl
  f156 := Ybaf.func10.trans (congrArg some (by kernel_rfl))
  f165 := Ybaf.func12.trans (congrArg some (by kernel_rfl))
  f166 := Ybaf.func13.trans (congrArg some (by kernel_rfl))
  f169 := Ybaf.func14.trans (congrArg some (by kernel_rfl))
  f240 := Ybaf.func16.trans (congrArg some (by kernel_rfl))
  f241 := Ybaf.func17.trans (congrArg some (by kernel_rfl))
  f276 := Ybaf.func22.trans (congrArg some (by kernel_rfl))
  f277 := Ybaf.func23.trans (congrArg some (by kernel_rfl))
  t0 := Ybaf.underlying0
  a0 := Ybaf.isAgg0
  z0 := Ybaf.sizeOf0
  v0 := Ybaf.zeroValue0
  t3 := Ybaf.underlying3
  a3 := Ybaf.isAgg3
  z3 := Ybaf.sizeOf3
  v3 := Ybaf.zeroValue3
  t4 := Ybaf.underlying4
  a4 := Ybaf.isAgg4
  z4 := Ybaf.sizeOf4
  v4 := Ybaf.zeroValue4
  t9 := Ybaf.underlying9
  a9 := Ybaf.isAgg9
  z9 := Ybaf.sizeOf9
  v9 := Ybaf.zeroValue9
  t20 := Ybaf.underlying20
  a20 := Ybaf.isAgg20
  z20 := Ybaf.sizeOf20
  v20 := Ybaf.zeroValue20
  t31 := Ybaf.underlying27
  a31 := Ybaf.isAgg27
  z31 := Ybaf.sizeOf27
  v31 := Ybaf.zeroValue27
  t37 := Ybaf.underlying31
  a37 := Ybaf.isAgg31
  z37 := Ybaf.sizeOf31
  v37 := Ybaf.zeroValue31
  t70 := Ybaf.underlying32
  a70 := Ybaf.isAgg32
  z70 := Ybaf.sizeOf32
  v70 := Ybaf.zeroValue32
  t72 := Ybaf.underlying34
  a72 := Ybaf.isAgg34
  z72 := Ybaf.sizeOf34
  v72 := Ybaf.zeroValue34
  t75 := Ybaf.underlying37
  a75 := Ybaf.isAgg37
  z75 := Ybaf.sizeOf37
  v75 := Ybaf.zeroValue37
  t76 := Ybaf.underlying38
  a76 := Ybaf.isAgg38
  z76 := Ybaf.sizeOf38
  v76 := Ybaf.zeroValue38
  t127 := Ybaf.underlying42
  a127 := Ybaf.isAgg42
  z127 := Ybaf.sizeOf42
  v127 := Ybaf.zeroValue42
  t164 := Ybaf.underlying47
  a164 := Ybaf.isAgg47
  z164 := Ybaf.sizeOf47
  v164 := Ybaf.zeroValue47 }
theorem Ybaf.Builder_Extra_156 : Builder.Extra Ybaf.prog Ybaf.lays156_ren := {
  sizeBuilder := by kernel_rfl
  liesBuilder := by kernel_rfl
  t5 := Ybaf.underlying5
  a5 := Ybaf.isAgg5
  z5 := Ybaf.sizeOf5
  v5 := Ybaf.zeroValue5
  infoByte := by kernel_rfl
  cellsByte := by kernel_rfl
  sizeByte := by kernel_rfl
  neB5 := by decide }
open Go.RowKit in
/-- strings.Join: "Join concatenates the elements of its first argument to create a single string. The separator string sep is placed between elements in the resulting string.": HOWEVER MANY ELEMENTS. Below the heap's end the world is as it was. (LAID: no walk: one application.) -/
theorem Ybaf.strings_Join (bk o c : Nat) (xs : List ByteArray) (sep : ByteArray) (w : World) (hcells : ∀ (j : Nat) x, xs[j]? = some x → w.cell? ⟨bk, o + j, none⟩ = some (.string x)) (hbk : bk < w.heap.size) (hN : xs.length ≤ 140737488355328) (hcap : xs.length ≤ c) (hlen : (Lib.join (xs.map (·.data.toList)) sep.data.toList).length ≤ 140737488355328) :
    Calls Ybaf.prog 10 #[.slice (some ⟨bk, o, none⟩) xs.length c, .string sep] w fun e w' => e = .returned (.string ⟨(Lib.join (xs.map (·.data.toList)) sep.data.toList).toArray⟩) ∧ Below w.heap.size w w' := Any.strings_Join Ybaf.lays156 Ybaf.Builder_Extra_156 bk o c xs sep w hcells hbk hN hcap hlen
def Ybaf.laysM171_ren : Go.Shelf.Ren := ⟨fun | 171 => 9 | 243 => 11 | 246 => 15 | 283 => 18 | 284 => 19 | 285 => 20 | 286 => 21 | 129 => 25 | 317 => 24 | 318 => 26 | 319 => 27 | 320 => 28 | 337 => 29 | 338 => 30 | n => n, fun | 3 => 3 | 9 => 9 | 2 => 2 | 4 => 4 | 171 => 30 | 0 => 0 | 53 => 29 | 37 => 31 | 5 => 5 | 173 => 45 | 212 => 52 | 51 => 53 | 20 => 20 | 213 => 54 | 46 => 56 | 232 => 59 | 233 => 60 | n => n, fun | 17 => 0 | 18 => 2 | 19 => 3 | n => n⟩
theorem Ybaf.laysM171 : Go.Proofs.LaysM.n171 Ybaf.prog Ybaf.laysM171_ren := {
  mixed := by kernel_rfl
  f129 := Ybaf.func25.trans (congrArg some (by kernel_rfl))
  f171 := Ybaf.func9.trans (congrArg some (by kernel_rfl))
  f243 := Ybaf.func11.trans (congrArg some (by kernel_rfl))
  f246 := Ybaf.func15.trans (congrArg some (by kernel_rfl))
  f283 := Ybaf.func18.trans (congrArg some (by kernel_rfl))
  f284 := Ybaf.func19.trans (congrArg some (by kernel_rfl))
  f285 := Ybaf.func20.trans (congrArg some (by kernel_rfl))
  f286 := Ybaf.func21.trans (congrArg some (by kernel_rfl))
  f317 := Ybaf.func24.trans (congrArg some (by kernel_rfl))
  f318 := Ybaf.func26.trans (congrArg some (by kernel_rfl))
  f319 := Ybaf.func27.trans (congrArg some (by kernel_rfl))
  f320 := Ybaf.func28.trans (congrArg some (by kernel_rfl))
  f337 := Ybaf.func29.trans (congrArg some (by kernel_rfl))
  f338 := Ybaf.func30.trans (congrArg some (by kernel_rfl))
  t0 := Ybaf.underlying0
  a0 := Ybaf.isAgg0
  z0 := Ybaf.sizeOf0
  v0 := Ybaf.zeroValue0
  t2 := Ybaf.underlying2
  a2 := Ybaf.isAgg2
  z2 := Ybaf.sizeOf2
  v2 := Ybaf.zeroValue2
  t3 := Ybaf.underlying3
  a3 := Ybaf.isAgg3
  z3 := Ybaf.sizeOf3
  v3 := Ybaf.zeroValue3
  t4 := Ybaf.underlying4
  a4 := Ybaf.isAgg4
  z4 := Ybaf.sizeOf4
  v4 := Ybaf.zeroValue4
  t5 := Ybaf.underlying5
  a5 := Ybaf.isAgg5
  z5 := Ybaf.sizeOf5
  v5 := Ybaf.zeroValue5
  t9 := Ybaf.underlying9
  a9 := Ybaf.isAgg9
  z9 := Ybaf.sizeOf9
  v9 := Ybaf.zeroValue9
  t20 := Ybaf.underlying20
  a20 := Ybaf.isAgg20
  z20 := Ybaf.sizeOf20
  v20 := Ybaf.zeroValue20
  t37 := Ybaf.underlying31
  a37 := Ybaf.isAgg31
  z37 := Ybaf.sizeOf31
  v37 := Ybaf.zeroValue31
  t46 := Ybaf.underlying56
  a46 := Ybaf.isAgg56
  z46 := Ybaf.sizeOf56
  v46 := Ybaf.zeroValue56
  t51 := Ybaf.underlying53
  a51 := Ybaf.isAgg53
  z51 := Ybaf.sizeOf53
  v51 := Ybaf.zeroValue53
  t53 := Ybaf.underlying29
  a53 := Ybaf.isAgg29
  z53 := Ybaf.sizeOf29
  v53 := Ybaf.zeroValue29
  t171 := Ybaf.underlying30
  a171 := Ybaf.isAgg30
  z171 := Ybaf.sizeOf30
  v171 := Ybaf.zeroValue30
  t173 := Ybaf.underlying45
  a173 := Ybaf.isAgg45
  z173 := Ybaf.sizeOf45
  v173 := Ybaf.zeroValue45
  t212 := Ybaf.underlying52
  a212 := Ybaf.isAgg52
  z212 := Ybaf.sizeOf52
  v212 := Ybaf.zeroValue52
  t213 := Ybaf.underlying54
  a213 := Ybaf.isAgg54
  z213 := Ybaf.sizeOf54
  t232 := Ybaf.underlying59
  a232 := Ybaf.isAgg59
  z232 := Ybaf.sizeOf59
  v232 := Ybaf.zeroValue59
  t233 := Ybaf.underlying60
  a233 := Ybaf.isAgg60
  z233 := Ybaf.sizeOf60
  v233 := Ybaf.zeroValue60
  g17 := by kernel_rfl
  g18 := by kernel_rfl
  g19 := by kernel_rfl
  i0 := by kernel_rfl
  i2 := by kernel_rfl
  i3 := by kernel_rfl
  i4 := by kernel_rfl
  i5 := by kernel_rfl
  i9 := by kernel_rfl
  i20 := by kernel_rfl
  i37 := by kernel_rfl
  i46 := by kernel_rfl
  i51 := by kernel_rfl
  i53 := by kernel_rfl
  i171 := by kernel_rfl
  i173 := by kernel_rfl
  i212 := by kernel_rfl
  i232 := by kernel_rfl
  i233 := by kernel_rfl
  m17 := by kernel_rfl
  m18 := by kernel_rfl
  m19 := by kernel_rfl }
open Go.RowKit Go.Sort Go.Lib in
/-- strconv.Itoa: "Itoa is equivalent to FormatInt(int64(i), 10).": i's DECIMAL NUMERAL ('Lib.itoa': a '-' where i is negative, then the digits), FOR EVERY int. The world behind the call: the world before it, new blocks behind the heap (the library's 'var a [24]byte'), draws. (LAID: no walk: one application.) -/
theorem Ybaf.strconv_Itoa (n : Int) (h0 : -9223372036854775808 ≤ n) (h1 : n ≤ 9223372036854775807) (w : World) (htab : Lib.TabIs Ybaf.prog w YbulkckwmFmt.pow10Name .u64 Lib.pow10Tab) :
    Calls Ybaf.prog 9 #[.int .i64 n] w fun e w' => e = .returned (.string ⟨(Lib.itoa n).toArray⟩) ∧ ∃ k os, w' = grow (w.drewN k) os := Any.strconv_Itoa Ybaf.laysM171 n h0 h1 w htab
end Go.Proofs
