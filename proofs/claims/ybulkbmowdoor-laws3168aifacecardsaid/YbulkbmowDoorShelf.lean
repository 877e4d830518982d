/-
  THE SHELF's CONTRACTS THAT THIS SEAT USES, AT THIS DUMP, in plain words (written by the guide's lay-plain.mjs; the two on the builder's writing are had over strings.Join's laying).
-/
import Derived.Shelf.Strings.Builder1
import Derived.Shelf.Strings.Builder2
import Derived.Shelf.Strings.OnBuilder
import Derived.Shelf.Strings.BuilderF
import Derived.Shelf.Strings.BuilderK
import Derived.Shelf.Strconv.Itoa0
import Derived.Shelf.Strconv.Itoa1
import Derived.Shelf.LaysM
import Derived.Shelf.Strconv.Itoa2
import Derived.Shelf.Strconv.Itoa3
import Derived.Shelf.Slices.Turned
import Derived.Shelf.Sort.Plain
import Derived.Shelf.Slices.In.SortNone
import Derived.Test.YbulkbmowDoorRows
namespace Go.Proofs
open Go.Shelf
def Ybad.lays169_ren : Go.Shelf.Ren := ⟨fun | 169 => 27 | n => n, fun | 70 => 99 | 9 => 9 | 0 => 0 | 72 => 101 | 37 => 25 | 127 => 138 | 3 => 3 | 5 => 5 | n => n, fun | n => n⟩
theorem Ybad.lays169 : Go.Proofs.Lays.n169 Ybad.prog Ybad.lays169_ren := {
  mixed := by kernel_rfl
  f169 := Ybad.func27.trans (congrArg some (by kernel_rfl))
  t0 := Ybad.underlying0
  a0 := Ybad.isAgg0
  z0 := Ybad.sizeOf0
  v0 := Ybad.zeroValue0
  t3 := Ybad.underlying3
  a3 := Ybad.isAgg3
  z3 := Ybad.sizeOf3
  v3 := Ybad.zeroValue3
  t9 := Ybad.underlying9
  a9 := Ybad.isAgg9
  z9 := Ybad.sizeOf9
  v9 := Ybad.zeroValue9
  t37 := Ybad.underlying25
  a37 := Ybad.isAgg25
  z37 := Ybad.sizeOf25
  v37 := Ybad.zeroValue25
  t70 := Ybad.underlying99
  a70 := Ybad.isAgg99
  z70 := Ybad.sizeOf99
  v70 := Ybad.zeroValue99
  t72 := Ybad.underlying101
  a72 := Ybad.isAgg101
  z72 := Ybad.sizeOf101
  v72 := Ybad.zeroValue101
  t127 := Ybad.underlying138
  a127 := Ybad.isAgg138
  z127 := Ybad.sizeOf138
  v127 := Ybad.zeroValue138 }
theorem Ybad.Builder_Extra_169 : Builder.Extra Ybad.prog Ybad.lays169_ren := {
  sizeBuilder := by kernel_rfl
  liesBuilder := by kernel_rfl
  t5 := Ybad.underlying5
  a5 := Ybad.isAgg5
  z5 := Ybad.sizeOf5
  v5 := Ybad.zeroValue5
  infoByte := by kernel_rfl
  cellsByte := by kernel_rfl
  sizeByte := by kernel_rfl
  neB5 := by decide }
def Ybad.lays156_ren : Go.Shelf.Ren := ⟨fun | 156 => 24 | 165 => 44 | 166 => 18 | 169 => 27 | 240 => 40 | 241 => 56 | 276 => 54 | 277 => 64 | n => n, fun | 31 => 51 | 9 => 9 | 3 => 3 | 4 => 4 | 0 => 0 | 20 => 20 | 72 => 101 | 76 => 107 | 70 => 99 | 37 => 25 | 75 => 106 | 127 => 138 | 164 => 146 | 5 => 5 | 80 => 119 | n => n, fun | n => n⟩
theorem Ybad.lays156 : Go.Proofs.Lays.n156 Ybad.prog Ybad.lays156_ren := {
  mixed := by kernel_rfl
  f156 := Ybad.func24.trans (congrArg some (by kernel_rfl))
  f165 := Ybad.func44.trans (congrArg some (by kernel_rfl))
  f166 := Ybad.func18.trans (congrArg some (by kernel_rfl))
  f169 := Ybad.func27.trans (congrArg some (by kernel_rfl))
  f240 := Ybad.func40.trans (congrArg some (by kernel_rfl))
  f241 := Ybad.func56.trans (congrArg some (by kernel_rfl))
  f276 := Ybad.func54.trans (congrArg some (by kernel_rfl))
  f277 := Ybad.func64.trans (congrArg some (by kernel_rfl))
  t0 := Ybad.underlying0
  a0 := Ybad.isAgg0
  z0 := Ybad.sizeOf0
  v0 := Ybad.zeroValue0
  t3 := Ybad.underlying3
  a3 := Ybad.isAgg3
  z3 := Ybad.sizeOf3
  v3 := Ybad.zeroValue3
  t4 := Ybad.underlying4
  a4 := Ybad.isAgg4
  z4 := Ybad.sizeOf4
  v4 := Ybad.zeroValue4
  t9 := Ybad.underlying9
  a9 := Ybad.isAgg9
  z9 := Ybad.sizeOf9
  v9 := Ybad.zeroValue9
  t20 := Ybad.underlying20
  a20 := Ybad.isAgg20
  z20 := Ybad.sizeOf20
  v20 := Ybad.zeroValue20
  t31 := Ybad.underlying51
  a31 := Ybad.isAgg51
  z31 := Ybad.sizeOf51
  v31 := Ybad.zeroValue51
  t37 := Ybad.underlying25
  a37 := Ybad.isAgg25
  z37 := Ybad.sizeOf25
  v37 := Ybad.zeroValue25
  t70 := Ybad.underlying99
  a70 := Ybad.isAgg99
  z70 := Ybad.sizeOf99
  v70 := Ybad.zeroValue99
  t72 := Ybad.underlying101
  a72 := Ybad.isAgg101
  z72 := Ybad.sizeOf101
  v72 := Ybad.zeroValue101
  t75 := Ybad.underlying106
  a75 := Ybad.isAgg106
  z75 := Ybad.sizeOf106
  v75 := Ybad.zeroValue106
  t76 := Ybad.underlying107
  a76 := Ybad.isAgg107
  z76 := Ybad.sizeOf107
  v76 := Ybad.zeroValue107
  t127 := Ybad.underlying138
  a127 := Ybad.isAgg138
  z127 := Ybad.sizeOf138
  v127 := Ybad.zeroValue138
  t164 := Ybad.underlying146
  a164 := Ybad.isAgg146
  z164 := Ybad.sizeOf146
  v164 := Ybad.zeroValue146 }
theorem Ybad.Builder_Extra_156 : Builder.Extra Ybad.prog Ybad.lays156_ren := {
  sizeBuilder := by kernel_rfl
  liesBuilder := by kernel_rfl
  t5 := Ybad.underlying5
  a5 := Ybad.isAgg5
  z5 := Ybad.sizeOf5
  v5 := Ybad.zeroValue5
  infoByte := by kernel_rfl
  cellsByte := by kernel_rfl
  sizeByte := by kernel_rfl
  neB5 := by decide }
open Go.RowKit in
/-- No element: the empty string; the world is as it was. (Whatever the slice's address and capacity: a nil slice too.) (LAID: no walk: one application.) -/
theorem Ybad.strings_Join_none (a : Option Addr) (c : Nat) (sep : ByteArray) (w : World) :
    Calls Ybad.prog 24 #[.slice a 0 c, .string sep] w fun e w' => e = .returned (.string ⟨#[]⟩) ∧ w' = w := Any.strings_Join_none Ybad.lays156 Ybad.Builder_Extra_156 a c sep w
open Go.RowKit in
/-- strings.Join: "Join concatenates the elements of its first argument to create a single string. The separator string sep is placed between elements in the resulting string.": HOWEVER MANY ELEMENTS. Below the heap's end the world is as it was. (LAID: no walk: one application.) -/
theorem Ybad.strings_Join (bk o c : Nat) (xs : List ByteArray) (sep : ByteArray) (w : World) (hcells : ∀ (j : Nat) x, xs[j]? = some x → w.cell? ⟨bk, o + j, none⟩ = some (.string x)) (hbk : bk < w.heap.size) (hN : xs.length ≤ 140737488355328) (hcap : xs.length ≤ c) (hlen : (Lib.join (xs.map (·.data.toList)) sep.data.toList).length ≤ 140737488355328) :
    Calls Ybad.prog 24 #[.slice (some ⟨bk, o, none⟩) xs.length c, .string sep] w fun e w' => e = .returned (.string ⟨(Lib.join (xs.map (·.data.toList)) sep.data.toList).toArray⟩) ∧ Below w.heap.size w w' := Any.strings_Join Ybad.lays156 Ybad.Builder_Extra_156 bk o c xs sep w hcells hbk hN hcap hlen
open Go.RowKit in
/-- (*strings.Builder).String: "String returns the accumulated string.": WHATEVER THE BUILDER HOLDS; THE FORM '_k': OVER 'Lib.IsBuilderF' (a builder that 'String()' may have read), AND WITH THE FRAME THAT REACHES ABOVE THE BUILDER: 'Lib.OthersKept': every block that is not b and is no row of uint8's stands as it stood: the iterator of a range among them. (LAID: no walk: one application.) -/
theorem Ybad.Builder_String_any_k (B b : Nat) (l : List UInt8) (w : World) (h : Lib.IsBuilderF 101 5 B b (Lib.byteCells l) w) (hBw : B ≤ w.heap.size) :
    Calls Ybad.prog 27 #[.pointer (some ⟨b, 0, none⟩)] w fun e w' => e = .returned (.string ⟨l.toArray⟩) ∧ (Lib.IsBuilderF 101 5 B b (Lib.byteCells l) w' ∧ Below B w w' ∧ Lib.OthersKept 5 (some b) w w') := Any.Builder_String_any_k Ybad.lays169 Ybad.Builder_Extra_169 B b l w h hBw
def Ybad.laysM171_ren : Go.Shelf.Ren := ⟨fun | 171 => 13 | 243 => 28 | 246 => 47 | 283 => 58 | 284 => 59 | 285 => 60 | 286 => 61 | 129 => 39 | 317 => 65 | 318 => 66 | 319 => 67 | 320 => 68 | 337 => 69 | 338 => 70 | n => n, fun | 3 => 3 | 9 => 9 | 2 => 2 | 4 => 4 | 171 => 163 | 0 => 0 | 53 => 132 | 37 => 25 | 5 => 5 | 173 => 165 | 212 => 175 | 51 => 130 | 20 => 20 | 213 => 176 | 46 => 88 | 232 => 178 | 233 => 179 | n => n, fun | 17 => 0 | 18 => 2 | 19 => 3 | n => n⟩
theorem Ybad.laysM171 : Go.Proofs.LaysM.n171 Ybad.prog Ybad.laysM171_ren := {
  mixed := by kernel_rfl
  f129 := Ybad.func39.trans (congrArg some (by kernel_rfl))
  f171 := Ybad.func13.trans (congrArg some (by kernel_rfl))
  f243 := Ybad.func28.trans (congrArg some (by kernel_rfl))
  f246 := Ybad.func47.trans (congrArg some (by kernel_rfl))
  f283 := Ybad.func58.trans (congrArg some (by kernel_rfl))
  f284 := Ybad.func59.trans (congrArg some (by kernel_rfl))
  f285 := Ybad.func60.trans (congrArg some (by kernel_rfl))
  f286 := Ybad.func61.trans (congrArg some (by kernel_rfl))
  f317 := Ybad.func65.trans (congrArg some (by kernel_rfl))
  f318 := Ybad.func66.trans (congrArg some (by kernel_rfl))
  f319 := Ybad.func67.trans (congrArg some (by kernel_rfl))
  f320 := Ybad.func68.trans (congrArg some (by kernel_rfl))
  f337 := Ybad.func69.trans (congrArg some (by kernel_rfl))
  f338 := Ybad.func70.trans (congrArg some (by kernel_rfl))
  t0 := Ybad.underlying0
  a0 := Ybad.isAgg0
  z0 := Ybad.sizeOf0
  v0 := Ybad.zeroValue0
  t2 := Ybad.underlying2
  a2 := Ybad.isAgg2
  z2 := Ybad.sizeOf2
  v2 := Ybad.zeroValue2
  t3 := Ybad.underlying3
  a3 := Ybad.isAgg3
  z3 := Ybad.sizeOf3
  v3 := Ybad.zeroValue3
  t4 := Ybad.underlying4
  a4 := Ybad.isAgg4
  z4 := Ybad.sizeOf4
  v4 := Ybad.zeroValue4
  t5 := Ybad.underlying5
  a5 := Ybad.isAgg5
  z5 := Ybad.sizeOf5
  v5 := Ybad.zeroValue5
  t9 := Ybad.underlying9
  a9 := Ybad.isAgg9
  z9 := Ybad.sizeOf9
  v9 := Ybad.zeroValue9
  t20 := Ybad.underlying20
  a20 := Ybad.isAgg20
  z20 := Ybad.sizeOf20
  v20 := Ybad.zeroValue20
  t37 := Ybad.underlying25
  a37 := Ybad.isAgg25
  z37 := Ybad.sizeOf25
  v37 := Ybad.zeroValue25
  t46 := Ybad.underlying88
  a46 := Ybad.isAgg88
  z46 := Ybad.sizeOf88
  v46 := Ybad.zeroValue88
  t51 := Ybad.underlying130
  a51 := Ybad.isAgg130
  z51 := Ybad.sizeOf130
  v51 := Ybad.zeroValue130
  t53 := Ybad.underlying132
  a53 := Ybad.isAgg132
  z53 := Ybad.sizeOf132
  v53 := Ybad.zeroValue132
  t171 := Ybad.underlying163
  a171 := Ybad.isAgg163
  z171 := Ybad.sizeOf163
  v171 := Ybad.zeroValue163
  t173 := Ybad.underlying165
  a173 := Ybad.isAgg165
  z173 := Ybad.sizeOf165
  v173 := Ybad.zeroValue165
  t212 := Ybad.underlying175
  a212 := Ybad.isAgg175
  z212 := Ybad.sizeOf175
  v212 := Ybad.zeroValue175
  t213 := Ybad.underlying176
  a213 := Ybad.isAgg176
  z213 := Ybad.sizeOf176
  t232 := Ybad.underlying178
  a232 := Ybad.isAgg178
  z232 := Ybad.sizeOf178
  v232 := Ybad.zeroValue178
  t233 := Ybad.underlying179
  a233 := Ybad.isAgg179
  z233 := Ybad.sizeOf179
  v233 := Ybad.zeroValue179
  g17 := by kernel_rfl
  g18 := by kernel_rfl
  g19 := by kernel_rfl
  i0 := by kernel_rfl
  i2 := by kernel_rfl
  i3 := by kernel_rfl
  i4 := by kernel_rfl
  i5 := by kernel_rfl
  i9 := by kernel_rfl
  i20 := by kernel_rfl
  i37 := by kernel_rfl
  i46 := by kernel_rfl
  i51 := by kernel_rfl
  i53 := by kernel_rfl
  i171 := by kernel_rfl
  i173 := by kernel_rfl
  i212 := by kernel_rfl
  i232 := by kernel_rfl
  i233 := by kernel_rfl
  m17 := by kernel_rfl
  m18 := by kernel_rfl
  m19 := by kernel_rfl }
def Ybad.lays109_ren : Go.Shelf.Ren := ⟨fun | 109 => 41 | n => n, fun | 31 => 51 | 9 => 9 | 3 => 3 | 0 => 0 | 4 => 4 | n => n, fun | n => n⟩
theorem Ybad.lays109 : Go.Proofs.Lays.n109 Ybad.prog Ybad.lays109_ren := {
  mixed := by kernel_rfl
  f109 := Ybad.func41.trans (congrArg some (by kernel_rfl))
  t0 := Ybad.underlying0
  a0 := Ybad.isAgg0
  z0 := Ybad.sizeOf0
  v0 := Ybad.zeroValue0
  t3 := Ybad.underlying3
  a3 := Ybad.isAgg3
  z3 := Ybad.sizeOf3
  v3 := Ybad.zeroValue3
  t4 := Ybad.underlying4
  a4 := Ybad.isAgg4
  z4 := Ybad.sizeOf4
  v4 := Ybad.zeroValue4
  t9 := Ybad.underlying9
  a9 := Ybad.isAgg9
  z9 := Ybad.sizeOf9
  v9 := Ybad.zeroValue9
  t31 := Ybad.underlying51
  a31 := Ybad.isAgg51
  z31 := Ybad.sizeOf51
  v31 := Ybad.zeroValue51 }
open Go.Lib in
/-- slices.Index at []string: "Index returns the index of the first occurrence of v in s, or -1 if not present.": IT RETURNS 'Lib.idxOfS (the elements) v'; the world is as it was. 'zs': what the cells behind the slice's address hold (its spare capacity too, if you have it); 'zs.take n': its elements. (LAID: no walk: one application.) -/
theorem Ybad.slices_Index_string (b off n c : Nat) (zs : List ByteArray) (x : ByteArray) (w : World) (hz : n ≤ zs.length) (hbig : n ≤ 9223372036854775807) (hc : ∀ j, j < zs.length → w.cell? ⟨b, off + j, none⟩ = some (.string (zs.getD j ByteArray.empty))) :
    Calls Ybad.prog 41 #[.slice (some ⟨b, off, none⟩) n c, .string x] w fun e w' => e = .returned (.int .i64 (Lib.idxOfS (zs.take n) x)) ∧ w' = w := Any.slices_Index_string Ybad.lays109 b off n c zs x w hz hbig hc
open Go.Lib in
/-- The same at a slice of length 0, a nil one too: no cell is known, none is asked for. (LAID: no walk: one application.) -/
theorem Ybad.slices_Index_string_empty (a : Option Addr) (c : Nat) (x : ByteArray) (w : World) :
    Calls Ybad.prog 41 #[.slice a 0 c, .string x] w fun e w' => e = .returned (.int .i64 (Lib.idxOfS [] x)) ∧ w' = w := Any.slices_Index_string_empty Ybad.lays109 a c x w
def Ybad.lays190_ren : Go.Shelf.Ren := ⟨fun | 190 => 9 | 125 => 16 | 258 => 15 | 128 => 38 | 129 => 39 | 302 => 29 | 303 => 30 | 304 => 31 | 305 => 32 | 306 => 33 | 307 => 34 | 308 => 35 | 309 => 36 | 310 => 37 | 333 => 48 | 329 => 49 | 330 => 50 | 334 => 51 | 335 => 52 | 336 => 53 | 344 => 62 | n => n, fun | 31 => 51 | 9 => 9 | 3 => 3 | 46 => 88 | 0 => 0 | 51 => 130 | 53 => 132 | 4 => 4 | 183 => 122 | 182 => 121 | 131 => 127 | 5 => 5 | 218 => 140 | 222 => 144 | 228 => 167 | 229 => 168 | n => n, fun | n => n⟩
theorem Ybad.lays190 : Go.Proofs.Lays.n190 Ybad.prog Ybad.lays190_ren := {
  mixed := by kernel_rfl
  f125 := Ybad.func16.trans (congrArg some (by kernel_rfl))
  f128 := Ybad.func38.trans (congrArg some (by kernel_rfl))
  f129 := Ybad.func39.trans (congrArg some (by kernel_rfl))
  f190 := Ybad.func9.trans (congrArg some (by kernel_rfl))
  f258 := Ybad.func15.trans (congrArg some (by kernel_rfl))
  f302 := Ybad.func29.trans (congrArg some (by kernel_rfl))
  f303 := Ybad.func30.trans (congrArg some (by kernel_rfl))
  f304 := Ybad.func31.trans (congrArg some (by kernel_rfl))
  f305 := Ybad.func32.trans (congrArg some (by kernel_rfl))
  f306 := Ybad.func33.trans (congrArg some (by kernel_rfl))
  f307 := Ybad.func34.trans (congrArg some (by kernel_rfl))
  f308 := Ybad.func35.trans (congrArg some (by kernel_rfl))
  f309 := Ybad.func36.trans (congrArg some (by kernel_rfl))
  f310 := Ybad.func37.trans (congrArg some (by kernel_rfl))
  f329 := Ybad.func49.trans (congrArg some (by kernel_rfl))
  f330 := Ybad.func50.trans (congrArg some (by kernel_rfl))
  f333 := Ybad.func48.trans (congrArg some (by kernel_rfl))
  f334 := Ybad.func51.trans (congrArg some (by kernel_rfl))
  f335 := Ybad.func52.trans (congrArg some (by kernel_rfl))
  f336 := Ybad.func53.trans (congrArg some (by kernel_rfl))
  f344 := Ybad.func62.trans (congrArg some (by kernel_rfl))
  t0 := Ybad.underlying0
  a0 := Ybad.isAgg0
  z0 := Ybad.sizeOf0
  v0 := Ybad.zeroValue0
  t3 := Ybad.underlying3
  a3 := Ybad.isAgg3
  z3 := Ybad.sizeOf3
  v3 := Ybad.zeroValue3
  t4 := Ybad.underlying4
  a4 := Ybad.isAgg4
  z4 := Ybad.sizeOf4
  v4 := Ybad.zeroValue4
  t5 := Ybad.underlying5
  a5 := Ybad.isAgg5
  z5 := Ybad.sizeOf5
  v5 := Ybad.zeroValue5
  t9 := Ybad.underlying9
  a9 := Ybad.isAgg9
  z9 := Ybad.sizeOf9
  v9 := Ybad.zeroValue9
  t31 := Ybad.underlying51
  a31 := Ybad.isAgg51
  z31 := Ybad.sizeOf51
  v31 := Ybad.zeroValue51
  t46 := Ybad.underlying88
  a46 := Ybad.isAgg88
  z46 := Ybad.sizeOf88
  v46 := Ybad.zeroValue88
  t51 := Ybad.underlying130
  a51 := Ybad.isAgg130
  z51 := Ybad.sizeOf130
  v51 := Ybad.zeroValue130
  t53 := Ybad.underlying132
  a53 := Ybad.isAgg132
  z53 := Ybad.sizeOf132
  v53 := Ybad.zeroValue132
  t131 := Ybad.underlying127
  a131 := Ybad.isAgg127
  z131 := Ybad.sizeOf127
  v131 := Ybad.zeroValue127
  t182 := Ybad.underlying121
  a182 := Ybad.isAgg121
  z182 := Ybad.sizeOf121
  v182 := Ybad.zeroValue121
  t183 := Ybad.underlying122
  a183 := Ybad.isAgg122
  z183 := Ybad.sizeOf122
  v183 := Ybad.zeroValue122
  t218 := Ybad.underlying140
  a218 := Ybad.isAgg140
  z218 := Ybad.sizeOf140
  v218 := Ybad.zeroValue140
  t222 := Ybad.underlying144
  a222 := Ybad.isAgg144
  z222 := Ybad.sizeOf144
  v222 := Ybad.zeroValue144
  t228 := Ybad.underlying167
  a228 := Ybad.isAgg167
  z228 := Ybad.sizeOf167
  v228 := Ybad.zeroValue167
  t229 := Ybad.underlying168
  a229 := Ybad.isAgg168
  z229 := Ybad.sizeOf168
  v229 := Ybad.zeroValue168 }
open Go.Sort Go.RowKit in
theorem Ybad.slices_Sort_string (blk off cap : Nat) (ss : List (List UInt8)) (w : World) (hH : Holds encStr w blk off ss.toArray) (hblk : blk < w.heap.size) (hsz : ss.length < 4611686018427387904) :
    Calls Ybad.prog 9 #[.slice (some ⟨blk, off, none⟩) ss.length cap] w fun e w' =>
      e = .returned (.tuple #[]) ∧ ∃ n os, w' = grow (putRow encStr (Sort.ahead w n) blk off (ss.mergeSort fun x y => decide (x ≤ y)).toArray) os := Any.slices_Sort_string Ybad.lays190 blk off cap ss w hH hblk hsz
open Go.RowKit Go.Sort in
theorem Ybad.slices_Sort_string_none (p : Option Addr) (cap : Nat) (w : World) :
    Calls Ybad.prog 9 #[.slice p 0 cap] w fun e w' => e = .returned (.tuple #[]) ∧ w' = w := Any.slices_Sort_string_none Ybad.lays190 p cap w
/-- The table's name, read off the given row. -/
def Ybad.powName : String := YbulkbmowDoor.Rows.lawS3168AStructRow.named.headD YbulkbmowDoor.Rows.lawS3168AStructRow.func
open Go.RowKit Go.Sort Go.Lib in
theorem Ybad.strconv_Itoa (n : Int) (h0 : -9223372036854775808 ≤ n) (h1 : n ≤ 9223372036854775807) (w : World) (htab : Lib.TabIs Ybad.prog w Ybad.powName .u64 Lib.pow10Tab) :
    Calls Ybad.prog 13 #[.int .i64 n] w fun e w' => e = .returned (.string ⟨(Lib.itoa n).toArray⟩) ∧ ∃ k os, w' = grow (w.drewN k) os := Any.strconv_Itoa Ybad.laysM171 n h0 h1 w htab
theorem Ybad.lays166 : Lays.n166 Ybad.prog Ybad.lays156_ren := { Ybad.lays156 with }
open Go.RowKit in
theorem Ybad.Builder_WriteString_k (B b : Nat) (bs : List Value) (s : ByteArray) (w : World) (h : Lib.IsBuilderF 101 5 B b bs w) (hlen : bs.length + s.size ≤ 140737488355328) (hBw : B ≤ w.heap.size) :
    Calls Ybad.prog 18 #[.pointer (some ⟨b, 0, none⟩), .string s] w fun e w' => e = .returned (.tuple #[.int .i64 s.size, .nilIface]) ∧ (Lib.BuilderAtF 101 5 B b (.pointer (some ⟨b, 0, none⟩)) (bs ++ Lib.strCells s) w' ∧ Below B w w' ∧ Lib.OthersKept 5 (some b) w w') := Any.Builder_WriteString_k Ybad.lays166 Ybad.Builder_Extra_156 B b bs s w h hlen hBw
end Go.Proofs
