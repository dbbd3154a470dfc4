/- Contracts of the library at this program, as a tool of the kit laid them. Conditions: none. -/
import Derived.Shelf.Strconv.Itoa0
import Derived.Shelf.LaysM
import Derived.Shelf.Strconv.Clone
import Derived.Shelf.Strconv.SyntaxError
import Derived.Shelf.LaysC
import Derived.Shelf.Strconv.ToError
import Derived.Shelf.Strconv.RangeError
import Derived.Shelf.Strconv.ToErrorRange
import Derived.Shelf.Unicode.Decode
import Derived.Shelf.Bits.Mul64
import Derived.Shelf.Unicode.DecodeSlow
import Derived.Shelf.Unicode.DecodeAny
import Derived.Shelf.Unicode.ValidAny
import Derived.Test.YtblphppdfiipfaaDoorProg
namespace Go.Proofs
open Go.Shelf
def Tryd.lays129_ren : Go.Shelf.Ren := ⟨fun | 129 => 71 | n => n, fun | 53 => 55 | 3 => 3 | 4 => 4 | 46 => 51 | 5 => 5 | 9 => 9 | n => n, fun | n => n⟩
theorem Tryd.lays129 : Go.Proofs.Lays.n129 Tryd.prog Tryd.lays129_ren := {
  mixed := by kernel_rfl
  f129 := Tryd.func71.trans (congrArg some (by kernel_rfl))
  t3 := Tryd.underlying3
  a3 := Tryd.isAgg3
  z3 := Tryd.sizeOf3
  v3 := Tryd.zeroValue3
  t4 := Tryd.underlying4
  a4 := Tryd.isAgg4
  z4 := Tryd.sizeOf4
  v4 := Tryd.zeroValue4
  t5 := Tryd.underlying5
  a5 := Tryd.isAgg5
  z5 := Tryd.sizeOf5
  v5 := Tryd.zeroValue5
  t9 := Tryd.underlying9
  a9 := Tryd.isAgg9
  z9 := Tryd.sizeOf9
  v9 := Tryd.zeroValue9
  t46 := Tryd.underlying51
  a46 := Tryd.isAgg51
  z46 := Tryd.sizeOf51
  v46 := Tryd.zeroValue51
  t53 := Tryd.underlying55
  a53 := Tryd.isAgg55
  z53 := Tryd.sizeOf55
  v53 := Tryd.zeroValue55 }
/-- bits.Len64: "Len64 returns the minimum number of bits required to represent x; the result is 0 for x == 0.": IT RETURNS 'Lib.bitLen x'; the world is as it was. ('h0', 'h1': x is a uint64.) (LAID: no walk: one application.) -/
theorem Tryd.bits_Len64 (x : Int) (w : World) (h0 : 0 ≤ x) (h1 : x ≤ 18446744073709551615) :
    Calls Tryd.prog 71 #[.int .u64 x] w fun e w' => e = .returned (.int .i64 (Lib.bitLen x.toNat)) ∧ w' = w := Any.bits_Len64 Tryd.lays129 x w h0 h1
def Tryd.laysC245_ren : Go.Shelf.Ren := ⟨fun | 245 => 36 | 279 => 43 | 280 => 44 | 281 => 45 | 282 => 46 | 316 => 48 | 171 => 50 | 205 => 49 | 243 => 53 | 246 => 67 | 283 => 82 | 284 => 83 | 285 => 84 | 286 => 85 | 129 => 71 | 317 => 90 | 318 => 75 | 319 => 91 | 320 => 92 | 337 => 95 | 338 => 96 | n => n, fun | 9 => 9 | 3 => 3 | 75 => 63 | 167 => 77 | 4 => 4 | 168 => 79 | 210 => 86 | 37 => 33 | 0 => 0 | 127 => 93 | 145 => 96 | 143 => 94 | 2 => 2 | 171 => 141 | 53 => 55 | 5 => 5 | 173 => 143 | 212 => 152 | 51 => 105 | 20 => 20 | 213 => 153 | 46 => 51 | 232 => 162 | 233 => 163 | 80 => 52 | n => n, fun | 15 => 3 | 16 => 4 | 17 => 12 | 18 => 14 | 19 => 15 | n => n⟩
theorem Tryd.laysC245 : Go.Proofs.LaysC.n245 Tryd.prog Tryd.laysC245_ren := {
  mixed := by kernel_rfl
  f129 := Tryd.func71.trans (congrArg some (by kernel_rfl))
  f171 := Tryd.func50.trans (congrArg some (by kernel_rfl))
  f205 := Tryd.func49.trans (congrArg some (by kernel_rfl))
  f243 := Tryd.func53.trans (congrArg some (by kernel_rfl))
  f245 := Tryd.func36.trans (congrArg some (by kernel_rfl))
  f246 := Tryd.func67.trans (congrArg some (by kernel_rfl))
  f279 := Tryd.func43.trans (congrArg some (by kernel_rfl))
  f280 := Tryd.func44.trans (congrArg some (by kernel_rfl))
  f281 := Tryd.func45.trans (congrArg some (by kernel_rfl))
  f282 := Tryd.func46.trans (congrArg some (by kernel_rfl))
  f283 := Tryd.func82.trans (congrArg some (by kernel_rfl))
  f284 := Tryd.func83.trans (congrArg some (by kernel_rfl))
  f285 := Tryd.func84.trans (congrArg some (by kernel_rfl))
  f286 := Tryd.func85.trans (congrArg some (by kernel_rfl))
  f316 := Tryd.func48.trans (congrArg some (by kernel_rfl))
  f317 := Tryd.func90.trans (congrArg some (by kernel_rfl))
  f318 := Tryd.func75.trans (congrArg some (by kernel_rfl))
  f319 := Tryd.func91.trans (congrArg some (by kernel_rfl))
  f320 := Tryd.func92.trans (congrArg some (by kernel_rfl))
  f337 := Tryd.func95.trans (congrArg some (by kernel_rfl))
  f338 := Tryd.func96.trans (congrArg some (by kernel_rfl))
  t0 := Tryd.underlying0
  a0 := Tryd.isAgg0
  z0 := Tryd.sizeOf0
  v0 := Tryd.zeroValue0
  t2 := Tryd.underlying2
  a2 := Tryd.isAgg2
  z2 := Tryd.sizeOf2
  v2 := Tryd.zeroValue2
  t3 := Tryd.underlying3
  a3 := Tryd.isAgg3
  z3 := Tryd.sizeOf3
  v3 := Tryd.zeroValue3
  t4 := Tryd.underlying4
  a4 := Tryd.isAgg4
  z4 := Tryd.sizeOf4
  v4 := Tryd.zeroValue4
  t5 := Tryd.underlying5
  a5 := Tryd.isAgg5
  z5 := Tryd.sizeOf5
  v5 := Tryd.zeroValue5
  t9 := Tryd.underlying9
  a9 := Tryd.isAgg9
  z9 := Tryd.sizeOf9
  v9 := Tryd.zeroValue9
  t20 := Tryd.underlying20
  a20 := Tryd.isAgg20
  z20 := Tryd.sizeOf20
  v20 := Tryd.zeroValue20
  t37 := Tryd.underlying33
  a37 := Tryd.isAgg33
  z37 := Tryd.sizeOf33
  v37 := Tryd.zeroValue33
  t46 := Tryd.underlying51
  a46 := Tryd.isAgg51
  z46 := Tryd.sizeOf51
  v46 := Tryd.zeroValue51
  t51 := Tryd.underlying105
  a51 := Tryd.isAgg105
  z51 := Tryd.sizeOf105
  v51 := Tryd.zeroValue105
  t53 := Tryd.underlying55
  a53 := Tryd.isAgg55
  z53 := Tryd.sizeOf55
  v53 := Tryd.zeroValue55
  t75 := Tryd.underlying63
  a75 := Tryd.isAgg63
  z75 := Tryd.sizeOf63
  v75 := Tryd.zeroValue63
  t127 := Tryd.underlying93
  a127 := Tryd.isAgg93
  z127 := Tryd.sizeOf93
  v127 := Tryd.zeroValue93
  t143 := Tryd.underlying94
  a143 := Tryd.isAgg94
  z143 := Tryd.sizeOf94
  v143 := Tryd.zeroValue94
  t145 := Tryd.underlying96
  a145 := Tryd.isAgg96
  z145 := Tryd.sizeOf96
  v145 := Tryd.zeroValue96
  t167 := Tryd.underlying77
  a167 := Tryd.isAgg77
  z167 := Tryd.sizeOf77
  v167 := Tryd.zeroValue77
  t168 := Tryd.underlying79
  a168 := Tryd.isAgg79
  z168 := Tryd.sizeOf79
  v168 := Tryd.zeroValue79
  t171 := Tryd.underlying141
  a171 := Tryd.isAgg141
  z171 := Tryd.sizeOf141
  v171 := Tryd.zeroValue141
  t173 := Tryd.underlying143
  a173 := Tryd.isAgg143
  z173 := Tryd.sizeOf143
  v173 := Tryd.zeroValue143
  t210 := Tryd.underlying86
  a210 := Tryd.isAgg86
  z210 := Tryd.sizeOf86
  v210 := Tryd.zeroValue86
  t212 := Tryd.underlying152
  a212 := Tryd.isAgg152
  z212 := Tryd.sizeOf152
  v212 := Tryd.zeroValue152
  t213 := Tryd.underlying153
  a213 := Tryd.isAgg153
  z213 := Tryd.sizeOf153
  t232 := Tryd.underlying162
  a232 := Tryd.isAgg162
  z232 := Tryd.sizeOf162
  v232 := Tryd.zeroValue162
  t233 := Tryd.underlying163
  a233 := Tryd.isAgg163
  z233 := Tryd.sizeOf163
  v233 := Tryd.zeroValue163
  g15 := by kernel_rfl
  g16 := by kernel_rfl
  g17 := by kernel_rfl
  g18 := by kernel_rfl
  g19 := by kernel_rfl
  t80 := Tryd.underlying52
  a80 := Tryd.isAgg52
  z80 := Tryd.sizeOf52
  v80 := Tryd.zeroValue52
  i0 := by kernel_rfl
  i2 := by kernel_rfl
  i3 := by kernel_rfl
  i4 := by kernel_rfl
  i5 := by kernel_rfl
  i9 := by kernel_rfl
  i20 := by kernel_rfl
  i37 := by kernel_rfl
  i46 := by kernel_rfl
  i51 := by kernel_rfl
  i53 := by kernel_rfl
  i75 := by kernel_rfl
  i80 := by kernel_rfl
  i127 := by kernel_rfl
  i143 := by kernel_rfl
  i145 := by kernel_rfl
  i167 := by kernel_rfl
  i168 := by kernel_rfl
  i171 := by kernel_rfl
  i173 := by kernel_rfl
  i210 := by kernel_rfl
  i212 := by kernel_rfl
  i232 := by kernel_rfl
  i233 := by kernel_rfl
  m15 := by kernel_rfl
  m16 := by kernel_rfl
  m17 := by kernel_rfl
  m18 := by kernel_rfl
  m19 := by kernel_rfl
  c0 := by kernel_rfl
  c2 := by kernel_rfl
  c3 := by kernel_rfl
  c4 := by kernel_rfl
  c5 := by kernel_rfl
  c9 := by kernel_rfl
  c20 := by kernel_rfl
  c37 := by kernel_rfl
  c46 := by kernel_rfl
  c51 := by kernel_rfl
  c53 := by kernel_rfl
  c75 := by kernel_rfl
  c80 := by kernel_rfl
  c127 := by kernel_rfl
  c143 := by kernel_rfl
  c145 := by kernel_rfl
  c167 := by kernel_rfl
  c168 := by kernel_rfl
  c171 := by kernel_rfl
  c173 := by kernel_rfl
  c210 := by kernel_rfl
  c212 := by kernel_rfl
  c213 := by kernel_rfl
  c232 := by kernel_rfl
  c233 := by kernel_rfl }
open Go.RowKit in
/-- strconv.toError, at the inner package's ErrSyntax: 'syntaxError(fn, s)' as an error: A *NumError IN A NEW BLOCK. (LAID: no walk: one application.) -/
theorem Tryd.strconv_toError_syntax (fn s : ByteArray) (base bits : Int) (ev : Value) (w : World) (hlim : s.size ≤ 281474976710656) (hv : w.cell? ⟨3, 0, none⟩ = some ev) (hev : ev = .nilIface ∨ ∃ te pe, ev = .iface te pe) :
    Calls Tryd.prog 36 #[.string fn, .string s, .int .i64 base, .int .i64 bits, .iface 77 (.int .i64 2)] w fun e w' => ∃ N, e = .returned (.iface 79 (.pointer (some ⟨N, 0, none⟩))) ∧ w.heap.size ≤ N ∧ w'.heap[N]? = some (.cells #[.string fn, .string s, ev] 86 (0, 0)) ∧ Below w.heap.size w w' := Any.strconv_toError_syntax Tryd.laysC245 fn s base bits ev w hlim hv hev
open Go.RowKit in
/-- strconv.toError, at the inner package's ErrRange: 'rangeError(fn, s)' as an error: A *NumError IN A NEW BLOCK. (LAID: no walk: one application.) -/
theorem Tryd.strconv_toError_range (fn s : ByteArray) (base bits : Int) (ev : Value) (w : World) (hlim : s.size ≤ 281474976710656) (hv : w.cell? ⟨4, 0, none⟩ = some ev) (hev : ev = .nilIface ∨ ∃ te pe, ev = .iface te pe) :
    Calls Tryd.prog 36 #[.string fn, .string s, .int .i64 base, .int .i64 bits, .iface 77 (.int .i64 1)] w fun e w' => ∃ N, e = .returned (.iface 79 (.pointer (some ⟨N, 0, none⟩))) ∧ w.heap.size ≤ N ∧ w'.heap[N]? = some (.cells #[.string fn, .string s, ev] 86 (0, 0)) ∧ Below w.heap.size w w' := Any.strconv_toError_range Tryd.laysC245 fn s base bits ev w hlim hv hev
def Tryd.lays264_ren : Go.Shelf.Ren := ⟨fun | 264 => 86 | n => n, fun | 53 => 55 | 46 => 51 | n => n, fun | n => n⟩
theorem Tryd.lays264 : Go.Proofs.Lays.n264 Tryd.prog Tryd.lays264_ren := {
  mixed := by kernel_rfl
  f264 := Tryd.func86.trans (congrArg some (by kernel_rfl))
  t46 := Tryd.underlying51
  a46 := Tryd.isAgg51
  z46 := Tryd.sizeOf51
  v46 := Tryd.zeroValue51
  t53 := Tryd.underlying55
  a53 := Tryd.isAgg55
  z53 := Tryd.sizeOf55
  v53 := Tryd.zeroValue55 }
open Go.RowKit Go.Lib in
theorem Tryd.bits_Mul64 (x y : Nat) (hx : x < 18446744073709551616) (hy : y < 18446744073709551616) (w : World) :
    Calls Tryd.prog 86 #[.int .u64 x, .int .u64 y] w fun e w' => e = .returned (.tuple #[.int .u64 ((x * y / 18446744073709551616 : Nat) : Int), .int .u64 ((x * y % 18446744073709551616 : Nat) : Int)]) ∧ w' = w := Any.bits_Mul64 Tryd.lays264 x y hx hy w
def Tryd.lays197_ren : Go.Shelf.Ren := ⟨fun | 197 => 33 | 260 => 40 | n => n, fun | 9 => 9 | 21 => 21 | 3 => 3 | 4 => 4 | 5 => 5 | 105 => 71 | 119 => 47 | 0 => 0 | 46 => 51 | 139 => 50 | 138 => 49 | n => n, fun | 3 => 0 | 4 => 1 | n => n⟩
theorem Tryd.lays197 : Go.Proofs.Lays.n197 Tryd.prog Tryd.lays197_ren := {
  mixed := by kernel_rfl
  f197 := Tryd.func33.trans (congrArg some (by kernel_rfl))
  f260 := Tryd.func40.trans (congrArg some (by kernel_rfl))
  t0 := Tryd.underlying0
  a0 := Tryd.isAgg0
  z0 := Tryd.sizeOf0
  v0 := Tryd.zeroValue0
  t3 := Tryd.underlying3
  a3 := Tryd.isAgg3
  z3 := Tryd.sizeOf3
  v3 := Tryd.zeroValue3
  t4 := Tryd.underlying4
  a4 := Tryd.isAgg4
  z4 := Tryd.sizeOf4
  v4 := Tryd.zeroValue4
  t5 := Tryd.underlying5
  a5 := Tryd.isAgg5
  z5 := Tryd.sizeOf5
  v5 := Tryd.zeroValue5
  t9 := Tryd.underlying9
  a9 := Tryd.isAgg9
  z9 := Tryd.sizeOf9
  v9 := Tryd.zeroValue9
  t21 := Tryd.underlying21
  a21 := Tryd.isAgg21
  z21 := Tryd.sizeOf21
  v21 := Tryd.zeroValue21
  t46 := Tryd.underlying51
  a46 := Tryd.isAgg51
  z46 := Tryd.sizeOf51
  v46 := Tryd.zeroValue51
  t105 := Tryd.underlying71
  a105 := Tryd.isAgg71
  z105 := Tryd.sizeOf71
  v105 := Tryd.zeroValue71
  t119 := Tryd.underlying47
  a119 := Tryd.isAgg47
  z119 := Tryd.sizeOf47
  t138 := Tryd.underlying49
  a138 := Tryd.isAgg49
  z138 := Tryd.sizeOf49
  v138 := Tryd.zeroValue49
  t139 := Tryd.underlying50
  a139 := Tryd.isAgg50
  z139 := Tryd.sizeOf50
  v139 := Tryd.zeroValue50
  g3 := by kernel_rfl
  g4 := by kernel_rfl }
open Go.RowKit Go.Lib in
/-- **unicode/utf8.DecodeRuneInString AT EVERY STRING.** (LAID: no walk: one application.) -/
theorem Tryd.utf8_DecodeRuneInString (s : ByteArray) (w : World) (hT : Lib.Utf8Tabs 0 1 w) :
    Calls Tryd.prog 33 #[.string s] w fun e w' => e = .returned (.tuple #[.int .i32 (Lib.decodeGo s).1, .int .i64 (Lib.decodeGo s).2]) ∧ Below w.heap.size w w' := Any.utf8_DecodeRuneInString Tryd.lays197 s w hT
def Tryd.laysValid_ren : Go.Shelf.Ren := ⟨fun | 196 => 10 | 259 => 15 | n => n, fun | 9 => 9 | 4 => 4 | 3 => 3 | 5 => 5 | 12 => 12 | 119 => 47 | 0 => 0 | 46 => 51 | 139 => 50 | 138 => 49 | 53 => 55 | n => n, fun | 3 => 0 | 4 => 1 | n => n⟩
theorem Tryd.laysValid : Go.Proofs.Lays.n196 Tryd.prog Tryd.laysValid_ren := {
  mixed := by kernel_rfl
  f196 := Tryd.func10.trans (congrArg some (by kernel_rfl))
  f259 := Tryd.func15.trans (congrArg some (by kernel_rfl))
  t0 := Tryd.underlying0
  a0 := Tryd.isAgg0
  z0 := Tryd.sizeOf0
  v0 := Tryd.zeroValue0
  t3 := Tryd.underlying3
  a3 := Tryd.isAgg3
  z3 := Tryd.sizeOf3
  v3 := Tryd.zeroValue3
  t4 := Tryd.underlying4
  a4 := Tryd.isAgg4
  z4 := Tryd.sizeOf4
  v4 := Tryd.zeroValue4
  t5 := Tryd.underlying5
  a5 := Tryd.isAgg5
  z5 := Tryd.sizeOf5
  v5 := Tryd.zeroValue5
  t9 := Tryd.underlying9
  a9 := Tryd.isAgg9
  z9 := Tryd.sizeOf9
  v9 := Tryd.zeroValue9
  t12 := Tryd.underlying12
  a12 := Tryd.isAgg12
  z12 := Tryd.sizeOf12
  v12 := Tryd.zeroValue12
  t46 := Tryd.underlying51
  a46 := Tryd.isAgg51
  z46 := Tryd.sizeOf51
  v46 := Tryd.zeroValue51
  t53 := Tryd.underlying55
  a53 := Tryd.isAgg55
  z53 := Tryd.sizeOf55
  v53 := Tryd.zeroValue55
  t119 := Tryd.underlying47
  a119 := Tryd.isAgg47
  z119 := Tryd.sizeOf47
  t138 := Tryd.underlying49
  a138 := Tryd.isAgg49
  z138 := Tryd.sizeOf49
  v138 := Tryd.zeroValue49
  t139 := Tryd.underlying50
  a139 := Tryd.isAgg50
  z139 := Tryd.sizeOf50
  v139 := Tryd.zeroValue50
  g3 := by kernel_rfl
  g4 := by kernel_rfl }
open Go.RowKit Go.Lib in
/-- utf8.ValidString -/
theorem Tryd.utf8_ValidString (s : ByteArray) (w : World) (hs : s.size ≤ 9223372036854775807) (hT : Lib.Utf8Tabs 0 1 w) :
    Calls Tryd.prog 10 #[.string s] w fun e w' => e = .returned (.bool (Lib.validD s.data.toList)) ∧ Below w.heap.size w w' := Any.utf8_ValidString Tryd.laysValid s w hs hT
end Go.Proofs
