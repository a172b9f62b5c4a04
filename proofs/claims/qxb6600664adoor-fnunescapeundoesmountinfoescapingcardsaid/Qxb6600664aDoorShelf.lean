/-
  The shelf's contracts at this program, laid by the kit's own tools (lay-shelf, lay-plain); those that this seat uses.
-/
import Derived.Shelf.Strings.Builder1
import Derived.Shelf.LaysC
import Derived.Shelf.Strconv.ToError
import Derived.Shelf.Strconv.Lower
import Derived.Shelf.Strconv.ToErrorRange
import Derived.Shelf.Strings.Search3
import Derived.Test.Qxb6600664aDoorProg
namespace Go.Proofs
open Go.Shelf
def Tryd.lays169_ren : Go.Shelf.Ren := ⟨fun | 169 => 13 | n => n, fun | 70 => 29 | 9 => 9 | 0 => 0 | 72 => 31 | 37 => 26 | 127 => 41 | 3 => 3 | 5 => 5 | n => n, fun | n => n⟩
theorem Tryd.lays169 : Go.Proofs.Lays.n169 Tryd.prog Tryd.lays169_ren := {
  mixed := by kernel_rfl
  f169 := Tryd.func13.trans (congrArg some (by kernel_rfl))
  t0 := Tryd.underlying0
  a0 := Tryd.isAgg0
  z0 := Tryd.sizeOf0
  v0 := Tryd.zeroValue0
  t3 := Tryd.underlying3
  a3 := Tryd.isAgg3
  z3 := Tryd.sizeOf3
  v3 := Tryd.zeroValue3
  t9 := Tryd.underlying9
  a9 := Tryd.isAgg9
  z9 := Tryd.sizeOf9
  v9 := Tryd.zeroValue9
  t37 := Tryd.underlying26
  a37 := Tryd.isAgg26
  z37 := Tryd.sizeOf26
  v37 := Tryd.zeroValue26
  t70 := Tryd.underlying29
  a70 := Tryd.isAgg29
  z70 := Tryd.sizeOf29
  v70 := Tryd.zeroValue29
  t72 := Tryd.underlying31
  a72 := Tryd.isAgg31
  z72 := Tryd.sizeOf31
  v72 := Tryd.zeroValue31
  t127 := Tryd.underlying41
  a127 := Tryd.isAgg41
  z127 := Tryd.sizeOf41
  v127 := Tryd.zeroValue41 }
theorem Tryd.Builder_Extra_169 : Builder.Extra Tryd.prog Tryd.lays169_ren := {
  sizeBuilder := by kernel_rfl
  liesBuilder := by kernel_rfl
  t5 := Tryd.underlying5
  a5 := Tryd.isAgg5
  z5 := Tryd.sizeOf5
  v5 := Tryd.zeroValue5
  infoByte := by kernel_rfl
  cellsByte := by kernel_rfl
  sizeByte := by kernel_rfl
  neB5 := by decide }
open Go.RowKit in
theorem Tryd.Builder_String_any (B b : Nat) (l : List UInt8) (w : World) (h : Lib.IsBuilder 31 5 B b (Lib.byteCells l) w) (hBw : B ≤ w.heap.size) :
    Calls Tryd.prog 13 #[.pointer (some ⟨b, 0, none⟩)] w fun e w' => e = .returned (.string ⟨l.toArray⟩) ∧ Below B w w' := Any.Builder_String_any Tryd.lays169 Tryd.Builder_Extra_169 B b l w h hBw
def Tryd.laysC245_ren : Go.Shelf.Ren := ⟨fun | 245 => 16 | 279 => 21 | 280 => 22 | 281 => 23 | 282 => 24 | 316 => 30 | 171 => 32 | 205 => 31 | 243 => 35 | 246 => 36 | 283 => 37 | 284 => 38 | 285 => 39 | 286 => 40 | 129 => 42 | 317 => 41 | 318 => 43 | 319 => 44 | 320 => 45 | 337 => 46 | 338 => 47 | n => n, fun | 9 => 9 | 3 => 3 | 75 => 34 | 167 => 42 | 4 => 4 | 168 => 44 | 210 => 52 | 37 => 26 | 0 => 0 | 127 => 41 | 145 => 60 | 143 => 58 | 2 => 2 | 171 => 62 | 53 => 32 | 5 => 5 | 173 => 65 | 212 => 68 | 51 => 55 | 20 => 20 | 213 => 69 | 46 => 27 | 232 => 73 | 233 => 74 | 80 => 38 | n => n, fun | 15 => 1 | 16 => 2 | 17 => 3 | 18 => 4 | 19 => 5 | n => n⟩
theorem Tryd.laysC245 : Go.Proofs.LaysC.n245 Tryd.prog Tryd.laysC245_ren := {
  mixed := by kernel_rfl
  f129 := Tryd.func42.trans (congrArg some (by kernel_rfl))
  f171 := Tryd.func32.trans (congrArg some (by kernel_rfl))
  f205 := Tryd.func31.trans (congrArg some (by kernel_rfl))
  f243 := Tryd.func35.trans (congrArg some (by kernel_rfl))
  f245 := Tryd.func16.trans (congrArg some (by kernel_rfl))
  f246 := Tryd.func36.trans (congrArg some (by kernel_rfl))
  f279 := Tryd.func21.trans (congrArg some (by kernel_rfl))
  f280 := Tryd.func22.trans (congrArg some (by kernel_rfl))
  f281 := Tryd.func23.trans (congrArg some (by kernel_rfl))
  f282 := Tryd.func24.trans (congrArg some (by kernel_rfl))
  f283 := Tryd.func37.trans (congrArg some (by kernel_rfl))
  f284 := Tryd.func38.trans (congrArg some (by kernel_rfl))
  f285 := Tryd.func39.trans (congrArg some (by kernel_rfl))
  f286 := Tryd.func40.trans (congrArg some (by kernel_rfl))
  f316 := Tryd.func30.trans (congrArg some (by kernel_rfl))
  f317 := Tryd.func41.trans (congrArg some (by kernel_rfl))
  f318 := Tryd.func43.trans (congrArg some (by kernel_rfl))
  f319 := Tryd.func44.trans (congrArg some (by kernel_rfl))
  f320 := Tryd.func45.trans (congrArg some (by kernel_rfl))
  f337 := Tryd.func46.trans (congrArg some (by kernel_rfl))
  f338 := Tryd.func47.trans (congrArg some (by kernel_rfl))
  t0 := Tryd.underlying0
  a0 := Tryd.isAgg0
  z0 := Tryd.sizeOf0
  v0 := Tryd.zeroValue0
  t2 := Tryd.underlying2
  a2 := Tryd.isAgg2
  z2 := Tryd.sizeOf2
  v2 := Tryd.zeroValue2
  t3 := Tryd.underlying3
  a3 := Tryd.isAgg3
  z3 := Tryd.sizeOf3
  v3 := Tryd.zeroValue3
  t4 := Tryd.underlying4
  a4 := Tryd.isAgg4
  z4 := Tryd.sizeOf4
  v4 := Tryd.zeroValue4
  t5 := Tryd.underlying5
  a5 := Tryd.isAgg5
  z5 := Tryd.sizeOf5
  v5 := Tryd.zeroValue5
  t9 := Tryd.underlying9
  a9 := Tryd.isAgg9
  z9 := Tryd.sizeOf9
  v9 := Tryd.zeroValue9
  t20 := Tryd.underlying20
  a20 := Tryd.isAgg20
  z20 := Tryd.sizeOf20
  v20 := Tryd.zeroValue20
  t37 := Tryd.underlying26
  a37 := Tryd.isAgg26
  z37 := Tryd.sizeOf26
  v37 := Tryd.zeroValue26
  t46 := Tryd.underlying27
  a46 := Tryd.isAgg27
  z46 := Tryd.sizeOf27
  v46 := Tryd.zeroValue27
  t51 := Tryd.underlying55
  a51 := Tryd.isAgg55
  z51 := Tryd.sizeOf55
  v51 := Tryd.zeroValue55
  t53 := Tryd.underlying32
  a53 := Tryd.isAgg32
  z53 := Tryd.sizeOf32
  v53 := Tryd.zeroValue32
  t75 := Tryd.underlying34
  a75 := Tryd.isAgg34
  z75 := Tryd.sizeOf34
  v75 := Tryd.zeroValue34
  t127 := Tryd.underlying41
  a127 := Tryd.isAgg41
  z127 := Tryd.sizeOf41
  v127 := Tryd.zeroValue41
  t143 := Tryd.underlying58
  a143 := Tryd.isAgg58
  z143 := Tryd.sizeOf58
  v143 := Tryd.zeroValue58
  t145 := Tryd.underlying60
  a145 := Tryd.isAgg60
  z145 := Tryd.sizeOf60
  v145 := Tryd.zeroValue60
  t167 := Tryd.underlying42
  a167 := Tryd.isAgg42
  z167 := Tryd.sizeOf42
  v167 := Tryd.zeroValue42
  t168 := Tryd.underlying44
  a168 := Tryd.isAgg44
  z168 := Tryd.sizeOf44
  v168 := Tryd.zeroValue44
  t171 := Tryd.underlying62
  a171 := Tryd.isAgg62
  z171 := Tryd.sizeOf62
  v171 := Tryd.zeroValue62
  t173 := Tryd.underlying65
  a173 := Tryd.isAgg65
  z173 := Tryd.sizeOf65
  v173 := Tryd.zeroValue65
  t210 := Tryd.underlying52
  a210 := Tryd.isAgg52
  z210 := Tryd.sizeOf52
  v210 := Tryd.zeroValue52
  t212 := Tryd.underlying68
  a212 := Tryd.isAgg68
  z212 := Tryd.sizeOf68
  v212 := Tryd.zeroValue68
  t213 := Tryd.underlying69
  a213 := Tryd.isAgg69
  z213 := Tryd.sizeOf69
  t232 := Tryd.underlying73
  a232 := Tryd.isAgg73
  z232 := Tryd.sizeOf73
  v232 := Tryd.zeroValue73
  t233 := Tryd.underlying74
  a233 := Tryd.isAgg74
  z233 := Tryd.sizeOf74
  v233 := Tryd.zeroValue74
  g15 := by kernel_rfl
  g16 := by kernel_rfl
  g17 := by kernel_rfl
  g18 := by kernel_rfl
  g19 := by kernel_rfl
  t80 := Tryd.underlying38
  a80 := Tryd.isAgg38
  z80 := Tryd.sizeOf38
  v80 := Tryd.zeroValue38
  i0 := by kernel_rfl
  i2 := by kernel_rfl
  i3 := by kernel_rfl
  i4 := by kernel_rfl
  i5 := by kernel_rfl
  i9 := by kernel_rfl
  i20 := by kernel_rfl
  i37 := by kernel_rfl
  i46 := by kernel_rfl
  i51 := by kernel_rfl
  i53 := by kernel_rfl
  i75 := by kernel_rfl
  i80 := by kernel_rfl
  i127 := by kernel_rfl
  i143 := by kernel_rfl
  i145 := by kernel_rfl
  i167 := by kernel_rfl
  i168 := by kernel_rfl
  i171 := by kernel_rfl
  i173 := by kernel_rfl
  i210 := by kernel_rfl
  i212 := by kernel_rfl
  i232 := by kernel_rfl
  i233 := by kernel_rfl
  m15 := by kernel_rfl
  m16 := by kernel_rfl
  m17 := by kernel_rfl
  m18 := by kernel_rfl
  m19 := by kernel_rfl
  c0 := by kernel_rfl
  c2 := by kernel_rfl
  c3 := by kernel_rfl
  c4 := by kernel_rfl
  c5 := by kernel_rfl
  c9 := by kernel_rfl
  c20 := by kernel_rfl
  c37 := by kernel_rfl
  c46 := by kernel_rfl
  c51 := by kernel_rfl
  c53 := by kernel_rfl
  c75 := by kernel_rfl
  c80 := by kernel_rfl
  c127 := by kernel_rfl
  c143 := by kernel_rfl
  c145 := by kernel_rfl
  c167 := by kernel_rfl
  c168 := by kernel_rfl
  c171 := by kernel_rfl
  c173 := by kernel_rfl
  c210 := by kernel_rfl
  c212 := by kernel_rfl
  c213 := by kernel_rfl
  c232 := by kernel_rfl
  c233 := by kernel_rfl }
open Go.RowKit in
theorem Tryd.strconv_toError_syntax (fn s : ByteArray) (base bits : Int) (ev : Value) (w : World) (hlim : s.size ≤ 281474976710656) (hv : w.cell? ⟨1, 0, none⟩ = some ev) (hev : ev = .nilIface ∨ ∃ te pe, ev = .iface te pe) :
    Calls Tryd.prog 16 #[.string fn, .string s, .int .i64 base, .int .i64 bits, .iface 42 (.int .i64 2)] w fun e w' => ∃ N, e = .returned (.iface 44 (.pointer (some ⟨N, 0, none⟩))) ∧ w.heap.size ≤ N ∧ w'.heap[N]? = some (.cells #[.string fn, .string s, ev] 52 (0, 0)) ∧ Below w.heap.size w w' := Any.strconv_toError_syntax Tryd.laysC245 fn s base bits ev w hlim hv hev
def Tryd.lays321_ren : Go.Shelf.Ren := ⟨fun | 321 => 19 | n => n, fun | 5 => 5 | n => n, fun | n => n⟩
theorem Tryd.lays321 : Go.Proofs.Lays.n321 Tryd.prog Tryd.lays321_ren := {
  mixed := by kernel_rfl
  f321 := Tryd.func19.trans (congrArg some (by kernel_rfl))
  t5 := Tryd.underlying5
  a5 := Tryd.isAgg5
  z5 := Tryd.sizeOf5
  v5 := Tryd.zeroValue5 }
open Go.RowKit in
theorem Tryd.internal_strconv_lower (c : Int) (w : World) :
    Calls Tryd.prog 19 #[.int .u8 c] w fun e w' => e = .returned (.int .u8 (bits .or .u8 c 32)) ∧ w' = w := Any.internal_strconv_lower Tryd.lays321 c w
open Go.RowKit in
theorem Tryd.strconv_toError_range (fn s : ByteArray) (base bits : Int) (ev : Value) (w : World) (hlim : s.size ≤ 281474976710656) (hv : w.cell? ⟨2, 0, none⟩ = some ev) (hev : ev = .nilIface ∨ ∃ te pe, ev = .iface te pe) :
    Calls Tryd.prog 16 #[.string fn, .string s, .int .i64 base, .int .i64 bits, .iface 42 (.int .i64 1)] w fun e w' => ∃ N, e = .returned (.iface 44 (.pointer (some ⟨N, 0, none⟩))) ∧ w.heap.size ≤ N ∧ w'.heap[N]? = some (.cells #[.string fn, .string s, ev] 52 (0, 0)) ∧ Below w.heap.size w w' := Any.strconv_toError_range Tryd.laysC245 fn s base bits ev w hlim hv hev
def Tryd.lays144_ren : Go.Shelf.Ren := ⟨fun | 144 => 10 | 143 => 14 | 219 => 18 | 217 => 26 | 225 => 27 | 224 => 28 | 267 => 29 | 266 => 33 | 314 => 34 | n => n, fun | 9 => 9 | 4 => 4 | 3 => 3 | 5 => 5 | 46 => 27 | 146 => 56 | 51 => 55 | n => n, fun | 1 => 0 | n => n⟩
theorem Tryd.lays144 : Go.Proofs.Lays.n144 Tryd.prog Tryd.lays144_ren := {
  mixed := by kernel_rfl
  f143 := Tryd.func14.trans (congrArg some (by kernel_rfl))
  f144 := Tryd.func10.trans (congrArg some (by kernel_rfl))
  f217 := Tryd.func26.trans (congrArg some (by kernel_rfl))
  f219 := Tryd.func18.trans (congrArg some (by kernel_rfl))
  f224 := Tryd.func28.trans (congrArg some (by kernel_rfl))
  f225 := Tryd.func27.trans (congrArg some (by kernel_rfl))
  f266 := Tryd.func33.trans (congrArg some (by kernel_rfl))
  f267 := Tryd.func29.trans (congrArg some (by kernel_rfl))
  f314 := Tryd.func34.trans (congrArg some (by kernel_rfl))
  t3 := Tryd.underlying3
  a3 := Tryd.isAgg3
  z3 := Tryd.sizeOf3
  v3 := Tryd.zeroValue3
  t4 := Tryd.underlying4
  a4 := Tryd.isAgg4
  z4 := Tryd.sizeOf4
  v4 := Tryd.zeroValue4
  t5 := Tryd.underlying5
  a5 := Tryd.isAgg5
  z5 := Tryd.sizeOf5
  v5 := Tryd.zeroValue5
  t9 := Tryd.underlying9
  a9 := Tryd.isAgg9
  z9 := Tryd.sizeOf9
  v9 := Tryd.zeroValue9
  t46 := Tryd.underlying27
  a46 := Tryd.isAgg27
  z46 := Tryd.sizeOf27
  v46 := Tryd.zeroValue27
  t51 := Tryd.underlying55
  a51 := Tryd.isAgg55
  z51 := Tryd.sizeOf55
  v51 := Tryd.zeroValue55
  t146 := Tryd.underlying56
  a146 := Tryd.isAgg56
  z146 := Tryd.sizeOf56
  v146 := Tryd.zeroValue56
  g1 := by kernel_rfl }
open Go.RowKit Go.Lib in
theorem Tryd.strings_Contains_one (s : ByteArray) (c : UInt8) (w : World) :
    Calls Tryd.prog 10 #[.string s, .string ⟨#[c]⟩] w fun e w' => e = .returned (.bool (decide (0 ≤ Lib.indexByte s.data.toList c))) ∧ w' = w := Any.strings_Contains_one Tryd.lays144 s c w
end Go.Proofs
