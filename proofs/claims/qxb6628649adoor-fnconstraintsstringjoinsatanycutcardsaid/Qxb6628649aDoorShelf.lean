/-
  DERIVED: two contracts of the guide's shelf, laid at this seat's translation by the shelf's own tools (lay-shelf, lay-plain): strings.Join and strconv.Itoa.
-/
import Derived.Shelf.Strings.OnBuilder
import Derived.Shelf.LaysM
import Derived.Shelf.Strconv.Itoa3
import Derived.Test.Qxb6628649aDoorProg
namespace Go.Proofs
open Go.Shelf
def Tryd.lays156_ren : Go.Shelf.Ren := ⟨fun | 156 => 15 | 165 => 17 | 166 => 18 | 169 => 19 | 240 => 21 | 241 => 22 | 276 => 24 | 277 => 25 | n => n, fun | 31 => 40 | 9 => 9 | 3 => 3 | 4 => 4 | 0 => 0 | 20 => 20 | 72 => 47 | 76 => 51 | 70 => 45 | 37 => 44 | 75 => 50 | 127 => 53 | 164 => 54 | 5 => 5 | 80 => 28 | n => n, fun | n => n⟩
theorem Tryd.lays156 : Go.Proofs.Lays.n156 Tryd.prog Tryd.lays156_ren := {
  mixed := by kernel_rfl
  f156 := Tryd.func15.trans (congrArg some (by kernel_rfl))
  f165 := Tryd.func17.trans (congrArg some (by kernel_rfl))
  f166 := Tryd.func18.trans (congrArg some (by kernel_rfl))
  f169 := Tryd.func19.trans (congrArg some (by kernel_rfl))
  f240 := Tryd.func21.trans (congrArg some (by kernel_rfl))
  f241 := Tryd.func22.trans (congrArg some (by kernel_rfl))
  f276 := Tryd.func24.trans (congrArg some (by kernel_rfl))
  f277 := Tryd.func25.trans (congrArg some (by kernel_rfl))
  t0 := Tryd.underlying0
  a0 := Tryd.isAgg0
  z0 := Tryd.sizeOf0
  v0 := Tryd.zeroValue0
  t3 := Tryd.underlying3
  a3 := Tryd.isAgg3
  z3 := Tryd.sizeOf3
  v3 := Tryd.zeroValue3
  t4 := Tryd.underlying4
  a4 := Tryd.isAgg4
  z4 := Tryd.sizeOf4
  v4 := Tryd.zeroValue4
  t9 := Tryd.underlying9
  a9 := Tryd.isAgg9
  z9 := Tryd.sizeOf9
  v9 := Tryd.zeroValue9
  t20 := Tryd.underlying20
  a20 := Tryd.isAgg20
  z20 := Tryd.sizeOf20
  v20 := Tryd.zeroValue20
  t31 := Tryd.underlying40
  a31 := Tryd.isAgg40
  z31 := Tryd.sizeOf40
  v31 := Tryd.zeroValue40
  t37 := Tryd.underlying44
  a37 := Tryd.isAgg44
  z37 := Tryd.sizeOf44
  v37 := Tryd.zeroValue44
  t70 := Tryd.underlying45
  a70 := Tryd.isAgg45
  z70 := Tryd.sizeOf45
  v70 := Tryd.zeroValue45
  t72 := Tryd.underlying47
  a72 := Tryd.isAgg47
  z72 := Tryd.sizeOf47
  v72 := Tryd.zeroValue47
  t75 := Tryd.underlying50
  a75 := Tryd.isAgg50
  z75 := Tryd.sizeOf50
  v75 := Tryd.zeroValue50
  t76 := Tryd.underlying51
  a76 := Tryd.isAgg51
  z76 := Tryd.sizeOf51
  v76 := Tryd.zeroValue51
  t127 := Tryd.underlying53
  a127 := Tryd.isAgg53
  z127 := Tryd.sizeOf53
  v127 := Tryd.zeroValue53
  t164 := Tryd.underlying54
  a164 := Tryd.isAgg54
  z164 := Tryd.sizeOf54
  v164 := Tryd.zeroValue54 }
theorem Tryd.Builder_Extra_156 : Builder.Extra Tryd.prog Tryd.lays156_ren := {
  sizeBuilder := by kernel_rfl
  liesBuilder := by kernel_rfl
  t5 := Tryd.underlying5
  a5 := Tryd.isAgg5
  z5 := Tryd.sizeOf5
  v5 := Tryd.zeroValue5
  infoByte := by kernel_rfl
  cellsByte := by kernel_rfl
  sizeByte := by kernel_rfl
  neB5 := by decide }
open Go.RowKit in
/-- strings.Join: "Join concatenates the elements of its first argument to create a single string. The separator string sep is placed between elements in the resulting string.": HOWEVER MANY ELEMENTS. Below the heap's end the world is as it was. (LAID: no walk: one application.) -/
theorem Tryd.strings_Join (bk o c : Nat) (xs : List ByteArray) (sep : ByteArray) (w : World) (hcells : ∀ (j : Nat) x, xs[j]? = some x → w.cell? ⟨bk, o + j, none⟩ = some (.string x)) (hbk : bk < w.heap.size) (hN : xs.length ≤ 140737488355328) (hcap : xs.length ≤ c) (hlen : (Lib.join (xs.map (·.data.toList)) sep.data.toList).length ≤ 140737488355328) :
    Calls Tryd.prog 15 #[.slice (some ⟨bk, o, none⟩) xs.length c, .string sep] w fun e w' => e = .returned (.string ⟨(Lib.join (xs.map (·.data.toList)) sep.data.toList).toArray⟩) ∧ Below w.heap.size w w' := Any.strings_Join Tryd.lays156 Tryd.Builder_Extra_156 bk o c xs sep w hcells hbk hN hcap hlen
def Tryd.laysM171_ren : Go.Shelf.Ren := ⟨fun | 171 => 20 | 243 => 23 | 246 => 26 | 283 => 27 | 284 => 28 | 285 => 29 | 286 => 30 | 129 => 32 | 317 => 31 | 318 => 33 | 319 => 34 | 320 => 35 | 337 => 36 | 338 => 37 | n => n, fun | 3 => 3 | 9 => 9 | 2 => 2 | 4 => 4 | 171 => 43 | 0 => 0 | 53 => 42 | 37 => 44 | 5 => 5 | 173 => 60 | 212 => 64 | 51 => 65 | 20 => 20 | 213 => 66 | 46 => 68 | 232 => 71 | 233 => 72 | n => n, fun | 17 => 1 | 18 => 2 | 19 => 3 | n => n⟩
theorem Tryd.laysM171 : Go.Proofs.LaysM.n171 Tryd.prog Tryd.laysM171_ren := {
  mixed := by kernel_rfl
  f129 := Tryd.func32.trans (congrArg some (by kernel_rfl))
  f171 := Tryd.func20.trans (congrArg some (by kernel_rfl))
  f243 := Tryd.func23.trans (congrArg some (by kernel_rfl))
  f246 := Tryd.func26.trans (congrArg some (by kernel_rfl))
  f283 := Tryd.func27.trans (congrArg some (by kernel_rfl))
  f284 := Tryd.func28.trans (congrArg some (by kernel_rfl))
  f285 := Tryd.func29.trans (congrArg some (by kernel_rfl))
  f286 := Tryd.func30.trans (congrArg some (by kernel_rfl))
  f317 := Tryd.func31.trans (congrArg some (by kernel_rfl))
  f318 := Tryd.func33.trans (congrArg some (by kernel_rfl))
  f319 := Tryd.func34.trans (congrArg some (by kernel_rfl))
  f320 := Tryd.func35.trans (congrArg some (by kernel_rfl))
  f337 := Tryd.func36.trans (congrArg some (by kernel_rfl))
  f338 := Tryd.func37.trans (congrArg some (by kernel_rfl))
  t0 := Tryd.underlying0
  a0 := Tryd.isAgg0
  z0 := Tryd.sizeOf0
  v0 := Tryd.zeroValue0
  t2 := Tryd.underlying2
  a2 := Tryd.isAgg2
  z2 := Tryd.sizeOf2
  v2 := Tryd.zeroValue2
  t3 := Tryd.underlying3
  a3 := Tryd.isAgg3
  z3 := Tryd.sizeOf3
  v3 := Tryd.zeroValue3
  t4 := Tryd.underlying4
  a4 := Tryd.isAgg4
  z4 := Tryd.sizeOf4
  v4 := Tryd.zeroValue4
  t5 := Tryd.underlying5
  a5 := Tryd.isAgg5
  z5 := Tryd.sizeOf5
  v5 := Tryd.zeroValue5
  t9 := Tryd.underlying9
  a9 := Tryd.isAgg9
  z9 := Tryd.sizeOf9
  v9 := Tryd.zeroValue9
  t20 := Tryd.underlying20
  a20 := Tryd.isAgg20
  z20 := Tryd.sizeOf20
  v20 := Tryd.zeroValue20
  t37 := Tryd.underlying44
  a37 := Tryd.isAgg44
  z37 := Tryd.sizeOf44
  v37 := Tryd.zeroValue44
  t46 := Tryd.underlying68
  a46 := Tryd.isAgg68
  z46 := Tryd.sizeOf68
  v46 := Tryd.zeroValue68
  t51 := Tryd.underlying65
  a51 := Tryd.isAgg65
  z51 := Tryd.sizeOf65
  v51 := Tryd.zeroValue65
  t53 := Tryd.underlying42
  a53 := Tryd.isAgg42
  z53 := Tryd.sizeOf42
  v53 := Tryd.zeroValue42
  t171 := Tryd.underlying43
  a171 := Tryd.isAgg43
  z171 := Tryd.sizeOf43
  v171 := Tryd.zeroValue43
  t173 := Tryd.underlying60
  a173 := Tryd.isAgg60
  z173 := Tryd.sizeOf60
  v173 := Tryd.zeroValue60
  t212 := Tryd.underlying64
  a212 := Tryd.isAgg64
  z212 := Tryd.sizeOf64
  v212 := Tryd.zeroValue64
  t213 := Tryd.underlying66
  a213 := Tryd.isAgg66
  z213 := Tryd.sizeOf66
  t232 := Tryd.underlying71
  a232 := Tryd.isAgg71
  z232 := Tryd.sizeOf71
  v232 := Tryd.zeroValue71
  t233 := Tryd.underlying72
  a233 := Tryd.isAgg72
  z233 := Tryd.sizeOf72
  v233 := Tryd.zeroValue72
  g17 := by kernel_rfl
  g18 := by kernel_rfl
  g19 := by kernel_rfl
  i0 := by kernel_rfl
  i2 := by kernel_rfl
  i3 := by kernel_rfl
  i4 := by kernel_rfl
  i5 := by kernel_rfl
  i9 := by kernel_rfl
  i20 := by kernel_rfl
  i37 := by kernel_rfl
  i46 := by kernel_rfl
  i51 := by kernel_rfl
  i53 := by kernel_rfl
  i171 := by kernel_rfl
  i173 := by kernel_rfl
  i212 := by kernel_rfl
  i232 := by kernel_rfl
  i233 := by kernel_rfl
  m17 := by kernel_rfl
  m18 := by kernel_rfl
  m19 := by kernel_rfl }
open Go.RowKit Go.Sort Go.Lib in
/-- strconv.Itoa: "Itoa is equivalent to FormatInt(int64(i), 10).": i's DECIMAL NUMERAL ('Lib.itoa': a '-' where i is negative, then the digits), FOR EVERY int. The world behind the call: the world before it, new blocks behind the heap (the library's 'var a [24]byte'), draws. (LAID: no walk: one application.) -/
theorem Tryd.strconv_Itoa (n : Int) (h0 : -9223372036854775808 ≤ n) (h1 : n ≤ 9223372036854775807) (w : World) (htab : Lib.TabIs Tryd.prog w "internal/strconv.uint64pow10" .u64 Lib.pow10Tab) :
    Calls Tryd.prog 20 #[.int .i64 n] w fun e w' => e = .returned (.string ⟨(Lib.itoa n).toArray⟩) ∧ ∃ k os, w' = grow (w.drewN k) os := Any.strconv_Itoa Tryd.laysM171 n h0 h1 w htab
end Go.Proofs
