/- The contracts of the library at this program, laid in plain words: a Builder's methods, the sort of strings, the decoder of a rune. -/
import Derived.Shelf.Strings.Builder1
import Derived.Shelf.Strings.Builder2
import Derived.Shelf.Sort.Plain
import Derived.Shelf.Unicode.DecodeSlow
import Derived.Shelf.Unicode.DecodeAny
import Derived.Test.YthkinpadambpcaaGreatDoorProg
namespace Go.Proofs
open Go.Shelf
def Tryz.lays169_ren : Go.Shelf.Ren := ⟨fun | 169 => 78 | n => n, fun | 70 => 85 | 9 => 9 | 0 => 0 | 72 => 88 | 37 => 86 | 127 => 153 | 3 => 3 | 5 => 5 | n => n, fun | n => n⟩
theorem Tryz.lays169 : Go.Proofs.Lays.n169 Tryz.prog Tryz.lays169_ren := {
  mixed := by kernel_rfl
  f169 := Tryz.func78.trans (congrArg some (by kernel_rfl))
  t0 := Tryz.underlying0
  a0 := Tryz.isAgg0
  z0 := Tryz.sizeOf0
  v0 := Tryz.zeroValue0
  t3 := Tryz.underlying3
  a3 := Tryz.isAgg3
  z3 := Tryz.sizeOf3
  v3 := Tryz.zeroValue3
  t9 := Tryz.underlying9
  a9 := Tryz.isAgg9
  z9 := Tryz.sizeOf9
  v9 := Tryz.zeroValue9
  t37 := Tryz.underlying86
  a37 := Tryz.isAgg86
  z37 := Tryz.sizeOf86
  v37 := Tryz.zeroValue86
  t70 := Tryz.underlying85
  a70 := Tryz.isAgg85
  z70 := Tryz.sizeOf85
  v70 := Tryz.zeroValue85
  t72 := Tryz.underlying88
  a72 := Tryz.isAgg88
  z72 := Tryz.sizeOf88
  v72 := Tryz.zeroValue88
  t127 := Tryz.underlying153
  a127 := Tryz.isAgg153
  z127 := Tryz.sizeOf153
  v127 := Tryz.zeroValue153 }
theorem Tryz.Builder_Extra_169 : Builder.Extra Tryz.prog Tryz.lays169_ren := {
  sizeBuilder := by kernel_rfl
  liesBuilder := by kernel_rfl
  t5 := Tryz.underlying5
  a5 := Tryz.isAgg5
  z5 := Tryz.sizeOf5
  v5 := Tryz.zeroValue5
  infoByte := by kernel_rfl
  cellsByte := by kernel_rfl
  sizeByte := by kernel_rfl
  neB5 := by decide }
open Go.RowKit in
/-- (*strings.Builder).String: "String returns the accumulated string.": WHATEVER THE BUILDER HOLDS. (LAID: no walk: one application.) -/
theorem Tryz.Builder_String_any (B b : Nat) (l : List UInt8) (w : World) (h : Lib.IsBuilder 88 5 B b (Lib.byteCells l) w) (hBw : B ≤ w.heap.size) :
    Calls Tryz.prog 78 #[.pointer (some ⟨b, 0, none⟩)] w fun e w' => e = .returned (.string ⟨l.toArray⟩) ∧ Below B w w' := Any.Builder_String_any Tryz.lays169 Tryz.Builder_Extra_169 B b l w h hBw
def Tryz.lays165_ren : Go.Shelf.Ren := ⟨fun | 165 => 73 | 240 => 124 | 241 => 125 | 276 => 177 | 277 => 130 | n => n, fun | 70 => 85 | 3 => 3 | 0 => 0 | 4 => 4 | 9 => 9 | 20 => 20 | 72 => 88 | 37 => 86 | 164 => 184 | 5 => 5 | n => n, fun | n => n⟩
theorem Tryz.lays165 : Go.Proofs.Lays.n165 Tryz.prog Tryz.lays165_ren := {
  mixed := by kernel_rfl
  f165 := Tryz.func73.trans (congrArg some (by kernel_rfl))
  f240 := Tryz.func124.trans (congrArg some (by kernel_rfl))
  f241 := Tryz.func125.trans (congrArg some (by kernel_rfl))
  f276 := Tryz.func177.trans (congrArg some (by kernel_rfl))
  f277 := Tryz.func130.trans (congrArg some (by kernel_rfl))
  t0 := Tryz.underlying0
  a0 := Tryz.isAgg0
  z0 := Tryz.sizeOf0
  v0 := Tryz.zeroValue0
  t3 := Tryz.underlying3
  a3 := Tryz.isAgg3
  z3 := Tryz.sizeOf3
  v3 := Tryz.zeroValue3
  t4 := Tryz.underlying4
  a4 := Tryz.isAgg4
  z4 := Tryz.sizeOf4
  v4 := Tryz.zeroValue4
  t9 := Tryz.underlying9
  a9 := Tryz.isAgg9
  z9 := Tryz.sizeOf9
  v9 := Tryz.zeroValue9
  t20 := Tryz.underlying20
  a20 := Tryz.isAgg20
  z20 := Tryz.sizeOf20
  v20 := Tryz.zeroValue20
  t37 := Tryz.underlying86
  a37 := Tryz.isAgg86
  z37 := Tryz.sizeOf86
  v37 := Tryz.zeroValue86
  t70 := Tryz.underlying85
  a70 := Tryz.isAgg85
  z70 := Tryz.sizeOf85
  v70 := Tryz.zeroValue85
  t72 := Tryz.underlying88
  a72 := Tryz.isAgg88
  z72 := Tryz.sizeOf88
  v72 := Tryz.zeroValue88
  t164 := Tryz.underlying184
  a164 := Tryz.isAgg184
  z164 := Tryz.sizeOf184
  v164 := Tryz.zeroValue184 }
theorem Tryz.Builder_Extra_165 : Builder.Extra Tryz.prog Tryz.lays165_ren := {
  sizeBuilder := by kernel_rfl
  liesBuilder := by kernel_rfl
  t5 := Tryz.underlying5
  a5 := Tryz.isAgg5
  z5 := Tryz.sizeOf5
  v5 := Tryz.zeroValue5
  infoByte := by kernel_rfl
  cellsByte := by kernel_rfl
  sizeByte := by kernel_rfl
  neB5 := by decide }
open Go.RowKit in
/-- (*strings.Builder).Grow AT A BUILDER THAT HAS NOT BEEN WRITTEN ('var b strings.Builder; b.Grow(n)'): "Grow grows b's capacity, if necessary, to guarantee space for another n bytes.": it holds no byte behind it as before it. (LAID: no walk: one application.) -/
theorem Tryz.Builder_Grow_fresh (B b n : Nat) (w : World) (hB : B ≤ b) (hbk : w.heap[b]? = some (.cells #[.pointer none, .slice none 0 0] 88 (0, 0))) (hBw : B ≤ w.heap.size) (hn : n ≤ 281474976710656) :
    Calls Tryz.prog 73 #[.pointer (some ⟨b, 0, none⟩), .int .i64 n] w fun e w' => e = .returned (.tuple #[]) ∧ (Lib.BuilderAt 88 5 B b (.pointer (some ⟨b, 0, none⟩)) [] w' ∧ Below B w w') := Any.Builder_Grow_fresh Tryz.lays165 Tryz.Builder_Extra_165 B b n w hB hbk hBw hn
def Tryz.lays190_ren : Go.Shelf.Ren := ⟨fun | 190 => 37 | 125 => 65 | 258 => 64 | 128 => 116 | 129 => 117 | 302 => 107 | 303 => 108 | 304 => 109 | 305 => 110 | 306 => 111 | 307 => 112 | 308 => 113 | 309 => 114 | 310 => 115 | 333 => 151 | 329 => 152 | 330 => 153 | 334 => 154 | 335 => 155 | 336 => 156 | 344 => 190 | n => n, fun | 31 => 28 | 9 => 9 | 3 => 3 | 46 => 78 | 0 => 0 | 51 => 132 | 53 => 60 | 4 => 4 | 183 => 125 | 182 => 124 | 131 => 129 | 5 => 5 | 218 => 177 | 222 => 44 | 228 => 197 | 229 => 198 | n => n, fun | n => n⟩
theorem Tryz.lays190 : Go.Proofs.Lays.n190 Tryz.prog Tryz.lays190_ren := {
  mixed := by kernel_rfl
  f125 := Tryz.func65.trans (congrArg some (by kernel_rfl))
  f128 := Tryz.func116.trans (congrArg some (by kernel_rfl))
  f129 := Tryz.func117.trans (congrArg some (by kernel_rfl))
  f190 := Tryz.func37.trans (congrArg some (by kernel_rfl))
  f258 := Tryz.func64.trans (congrArg some (by kernel_rfl))
  f302 := Tryz.func107.trans (congrArg some (by kernel_rfl))
  f303 := Tryz.func108.trans (congrArg some (by kernel_rfl))
  f304 := Tryz.func109.trans (congrArg some (by kernel_rfl))
  f305 := Tryz.func110.trans (congrArg some (by kernel_rfl))
  f306 := Tryz.func111.trans (congrArg some (by kernel_rfl))
  f307 := Tryz.func112.trans (congrArg some (by kernel_rfl))
  f308 := Tryz.func113.trans (congrArg some (by kernel_rfl))
  f309 := Tryz.func114.trans (congrArg some (by kernel_rfl))
  f310 := Tryz.func115.trans (congrArg some (by kernel_rfl))
  f329 := Tryz.func152.trans (congrArg some (by kernel_rfl))
  f330 := Tryz.func153.trans (congrArg some (by kernel_rfl))
  f333 := Tryz.func151.trans (congrArg some (by kernel_rfl))
  f334 := Tryz.func154.trans (congrArg some (by kernel_rfl))
  f335 := Tryz.func155.trans (congrArg some (by kernel_rfl))
  f336 := Tryz.func156.trans (congrArg some (by kernel_rfl))
  f344 := Tryz.func190.trans (congrArg some (by kernel_rfl))
  t0 := Tryz.underlying0
  a0 := Tryz.isAgg0
  z0 := Tryz.sizeOf0
  v0 := Tryz.zeroValue0
  t3 := Tryz.underlying3
  a3 := Tryz.isAgg3
  z3 := Tryz.sizeOf3
  v3 := Tryz.zeroValue3
  t4 := Tryz.underlying4
  a4 := Tryz.isAgg4
  z4 := Tryz.sizeOf4
  v4 := Tryz.zeroValue4
  t5 := Tryz.underlying5
  a5 := Tryz.isAgg5
  z5 := Tryz.sizeOf5
  v5 := Tryz.zeroValue5
  t9 := Tryz.underlying9
  a9 := Tryz.isAgg9
  z9 := Tryz.sizeOf9
  v9 := Tryz.zeroValue9
  t31 := Tryz.underlying28
  a31 := Tryz.isAgg28
  z31 := Tryz.sizeOf28
  v31 := Tryz.zeroValue28
  t46 := Tryz.underlying78
  a46 := Tryz.isAgg78
  z46 := Tryz.sizeOf78
  v46 := Tryz.zeroValue78
  t51 := Tryz.underlying132
  a51 := Tryz.isAgg132
  z51 := Tryz.sizeOf132
  v51 := Tryz.zeroValue132
  t53 := Tryz.underlying60
  a53 := Tryz.isAgg60
  z53 := Tryz.sizeOf60
  v53 := Tryz.zeroValue60
  t131 := Tryz.underlying129
  a131 := Tryz.isAgg129
  z131 := Tryz.sizeOf129
  v131 := Tryz.zeroValue129
  t182 := Tryz.underlying124
  a182 := Tryz.isAgg124
  z182 := Tryz.sizeOf124
  v182 := Tryz.zeroValue124
  t183 := Tryz.underlying125
  a183 := Tryz.isAgg125
  z183 := Tryz.sizeOf125
  v183 := Tryz.zeroValue125
  t218 := Tryz.underlying177
  a218 := Tryz.isAgg177
  z218 := Tryz.sizeOf177
  v218 := Tryz.zeroValue177
  t222 := Tryz.underlying44
  a222 := Tryz.isAgg44
  z222 := Tryz.sizeOf44
  v222 := Tryz.zeroValue44
  t228 := Tryz.underlying197
  a228 := Tryz.isAgg197
  z228 := Tryz.sizeOf197
  v228 := Tryz.zeroValue197
  t229 := Tryz.underlying198
  a229 := Tryz.isAgg198
  z229 := Tryz.sizeOf198
  v229 := Tryz.zeroValue198 }
open Go.Sort Go.RowKit in
theorem Tryz.slices_Sort_string (blk off cap : Nat) (ss : List (List UInt8)) (w : World) (hH : Holds encStr w blk off ss.toArray) (hblk : blk < w.heap.size) (hsz : ss.length < 4611686018427387904) :
    Calls Tryz.prog 37 #[.slice (some ⟨blk, off, none⟩) ss.length cap] w fun e w' =>
      e = .returned (.tuple #[]) ∧ ∃ n os, w' = grow (putRow encStr (Sort.ahead w n) blk off (ss.mergeSort fun x y => decide (x ≤ y)).toArray) os := Any.slices_Sort_string Tryz.lays190 blk off cap ss w hH hblk hsz
def Tryz.lays197_ren : Go.Shelf.Ren := ⟨fun | 197 => 35 | 260 => 62 | n => n, fun | 9 => 9 | 21 => 21 | 3 => 3 | 4 => 4 | 5 => 5 | 105 => 53 | 119 => 109 | 0 => 0 | 46 => 78 | 139 => 112 | 138 => 111 | n => n, fun | 3 => 1 | 4 => 2 | n => n⟩
theorem Tryz.lays197 : Go.Proofs.Lays.n197 Tryz.prog Tryz.lays197_ren := {
  mixed := by kernel_rfl
  f197 := Tryz.func35.trans (congrArg some (by kernel_rfl))
  f260 := Tryz.func62.trans (congrArg some (by kernel_rfl))
  t0 := Tryz.underlying0
  a0 := Tryz.isAgg0
  z0 := Tryz.sizeOf0
  v0 := Tryz.zeroValue0
  t3 := Tryz.underlying3
  a3 := Tryz.isAgg3
  z3 := Tryz.sizeOf3
  v3 := Tryz.zeroValue3
  t4 := Tryz.underlying4
  a4 := Tryz.isAgg4
  z4 := Tryz.sizeOf4
  v4 := Tryz.zeroValue4
  t5 := Tryz.underlying5
  a5 := Tryz.isAgg5
  z5 := Tryz.sizeOf5
  v5 := Tryz.zeroValue5
  t9 := Tryz.underlying9
  a9 := Tryz.isAgg9
  z9 := Tryz.sizeOf9
  v9 := Tryz.zeroValue9
  t21 := Tryz.underlying21
  a21 := Tryz.isAgg21
  z21 := Tryz.sizeOf21
  v21 := Tryz.zeroValue21
  t46 := Tryz.underlying78
  a46 := Tryz.isAgg78
  z46 := Tryz.sizeOf78
  v46 := Tryz.zeroValue78
  t105 := Tryz.underlying53
  a105 := Tryz.isAgg53
  z105 := Tryz.sizeOf53
  v105 := Tryz.zeroValue53
  t119 := Tryz.underlying109
  a119 := Tryz.isAgg109
  z119 := Tryz.sizeOf109
  t138 := Tryz.underlying111
  a138 := Tryz.isAgg111
  z138 := Tryz.sizeOf111
  v138 := Tryz.zeroValue111
  t139 := Tryz.underlying112
  a139 := Tryz.isAgg112
  z139 := Tryz.sizeOf112
  v139 := Tryz.zeroValue112
  g3 := by kernel_rfl
  g4 := by kernel_rfl }
open Go.RowKit Go.Lib in
/-- **unicode/utf8.DecodeRuneInString AT EVERY STRING.** (LAID: no walk: one application.) -/
theorem Tryz.utf8_DecodeRuneInString (s : ByteArray) (w : World) (hT : Lib.Utf8Tabs 1 2 w) :
    Calls Tryz.prog 35 #[.string s] w fun e w' => e = .returned (.tuple #[.int .i32 (Lib.decodeGo s).1, .int .i64 (Lib.decodeGo s).2]) ∧ Below w.heap.size w w' := Any.utf8_DecodeRuneInString Tryz.lays197 s w hT
def Tryz.lays166_ren : Go.Shelf.Ren := ⟨fun | 166 => 74 | 240 => 124 | 276 => 177 | n => n, fun | 70 => 85 | 3 => 3 | 0 => 0 | 4 => 4 | 9 => 9 | 20 => 20 | 72 => 88 | 37 => 86 | 164 => 184 | 5 => 5 | 75 => 91 | 80 => 95 | n => n, fun | n => n⟩
theorem Tryz.lays166 : Go.Proofs.Lays.n166 Tryz.prog Tryz.lays166_ren := {
  mixed := by kernel_rfl
  f166 := Tryz.func74.trans (congrArg some (by kernel_rfl))
  f240 := Tryz.func124.trans (congrArg some (by kernel_rfl))
  f276 := Tryz.func177.trans (congrArg some (by kernel_rfl))
  t0 := Tryz.underlying0
  a0 := Tryz.isAgg0
  z0 := Tryz.sizeOf0
  v0 := Tryz.zeroValue0
  t3 := Tryz.underlying3
  a3 := Tryz.isAgg3
  z3 := Tryz.sizeOf3
  v3 := Tryz.zeroValue3
  t4 := Tryz.underlying4
  a4 := Tryz.isAgg4
  z4 := Tryz.sizeOf4
  v4 := Tryz.zeroValue4
  t9 := Tryz.underlying9
  a9 := Tryz.isAgg9
  z9 := Tryz.sizeOf9
  v9 := Tryz.zeroValue9
  t20 := Tryz.underlying20
  a20 := Tryz.isAgg20
  z20 := Tryz.sizeOf20
  v20 := Tryz.zeroValue20
  t37 := Tryz.underlying86
  a37 := Tryz.isAgg86
  z37 := Tryz.sizeOf86
  v37 := Tryz.zeroValue86
  t70 := Tryz.underlying85
  a70 := Tryz.isAgg85
  z70 := Tryz.sizeOf85
  v70 := Tryz.zeroValue85
  t72 := Tryz.underlying88
  a72 := Tryz.isAgg88
  z72 := Tryz.sizeOf88
  v72 := Tryz.zeroValue88
  t75 := Tryz.underlying91
  a75 := Tryz.isAgg91
  z75 := Tryz.sizeOf91
  v75 := Tryz.zeroValue91
  t164 := Tryz.underlying184
  a164 := Tryz.isAgg184
  z164 := Tryz.sizeOf184
  v164 := Tryz.zeroValue184 }
theorem Tryz.Builder_Extra_166 : Builder.Extra Tryz.prog Tryz.lays166_ren := {
  sizeBuilder := by kernel_rfl
  liesBuilder := by kernel_rfl
  t5 := Tryz.underlying5
  a5 := Tryz.isAgg5
  z5 := Tryz.sizeOf5
  v5 := Tryz.zeroValue5
  infoByte := by kernel_rfl
  cellsByte := by kernel_rfl
  sizeByte := by kernel_rfl
  neB5 := by decide }
open Go.RowKit in
/-- (*strings.Builder).WriteString, laid by hand (the one command fell at a type that no body names). -/
theorem Tryz.Builder_WriteString (B b : Nat) (bs : List Value) (s : ByteArray) (w : World) (h : Lib.IsBuilder 88 5 B b bs w) (hlen : bs.length + s.size ≤ 140737488355328) (hBw : B ≤ w.heap.size) :
    Calls Tryz.prog 74 #[.pointer (some ⟨b, 0, none⟩), .string s] w fun e w' => e = .returned (.tuple #[.int .i64 s.size, .nilIface]) ∧ (Lib.BuilderAt 88 5 B b (.pointer (some ⟨b, 0, none⟩)) (bs ++ Lib.strCells s) w' ∧ Below B w w') := Any.Builder_WriteString Tryz.lays166 Tryz.Builder_Extra_166 B b bs s w h hlen hBw
end Go.Proofs
