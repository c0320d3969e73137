/-
  The shelf's contracts of the library functions on the road, laid at this program by the kit's own tools (lay-shelf.mjs, lay-plain.mjs), remarks struck.
-/
import Derived.Shelf.Small.Utf8
import Derived.Shelf.Small.Strs
import Derived.Ground.MpProg
import Derived.Shelf.Pu.ParseUintPublic10
import Derived.Shelf.Strings.Search1
import Derived.Shelf.Strings.Prefix
import Derived.Shelf.Strings.Runes
import Derived.Shelf.Strings.IndexAny
import Derived.Shelf.Strings.AsciiSet
import Derived.Shelf.Strings.IndexAnyAll
import Derived.Test.Qxb6601452aDoorProg
namespace Go.Proofs
open Go.Shelf
def Tryd.lays119_ren : Go.Shelf.Ren := ⟨fun | 119 => 30 | n => n, fun | 21 => 21 | 4 => 4 | n => n, fun | n => n⟩
theorem Tryd.lays119 : Go.Proofs.Lays.n119 Tryd.prog Tryd.lays119_ren := {
  mixed := by kernel_rfl
  f119 := Tryd.func30.trans (congrArg some (by kernel_rfl))
  t4 := Tryd.underlying4
  a4 := Tryd.isAgg4
  z4 := Tryd.sizeOf4
  v4 := Tryd.zeroValue4
  t21 := Tryd.underlying21
  a21 := Tryd.isAgg21
  z21 := Tryd.sizeOf21
  v21 := Tryd.zeroValue21 }
theorem Tryd.utf8_ValidRune (r : Int) (w : World) :
    Calls Tryd.prog 30 #[.int .i32 r] w fun e w' => e = .returned (.bool (Lib.validRune r)) ∧ w' = w := Any.utf8_ValidRune Tryd.lays119 r w
def Tryd.lays137_ren : Go.Shelf.Ren := ⟨fun | 137 => 29 | 217 => 36 | 266 => 38 | n => n, fun | 9 => 9 | 5 => 5 | 3 => 3 | n => n, fun | n => n⟩
theorem Tryd.lays137 : Go.Proofs.Lays.n137 Tryd.prog Tryd.lays137_ren := {
  mixed := by kernel_rfl
  f137 := Tryd.func29.trans (congrArg some (by kernel_rfl))
  f217 := Tryd.func36.trans (congrArg some (by kernel_rfl))
  f266 := Tryd.func38.trans (congrArg some (by kernel_rfl))
  t3 := Tryd.underlying3
  a3 := Tryd.isAgg3
  z3 := Tryd.sizeOf3
  v3 := Tryd.zeroValue3
  t5 := Tryd.underlying5
  a5 := Tryd.isAgg5
  z5 := Tryd.sizeOf5
  v5 := Tryd.zeroValue5
  t9 := Tryd.underlying9
  a9 := Tryd.isAgg9
  z9 := Tryd.sizeOf9
  v9 := Tryd.zeroValue9 }
open Go.RowKit in
theorem Tryd.strings_IndexByte (s : ByteArray) (c : Int) (w : World) :
    Calls Tryd.prog 29 #[.string s, .int .u8 c] w fun e w' => e = .returned (.int .i64 (Lib.indexByte s.data.toList c.toNat.toUInt8)) ∧ w' = w := Any.strings_IndexByte Tryd.lays137 s c w
def Tryd.laysPu14_ren : Go.Shelf.Ren := ⟨fun | 14 => 12 | 16 => 15 | 17 => 16 | 19 => 22 | 20 => 23 | 21 => 24 | 22 => 25 | 23 => 26 | 24 => 27 | 25 => 33 | 27 => 35 | 26 => 34 | 28 => 37 | 29 => 39 | 30 => 40 | 31 => 41 | 32 => 42 | 33 => 43 | 35 => 45 | 34 => 44 | 36 => 46 | 37 => 47 | 38 => 48 | 39 => 49 | 40 => 50 | n => n, fun | 9 => 9 | 3 => 3 | 22 => 24 | 24 => 31 | 25 => 32 | 4 => 4 | 34 => 43 | 5 => 5 | 36 => 45 | 37 => 28 | 0 => 0 | 39 => 46 | 21 => 21 | 44 => 55 | 47 => 58 | 50 => 61 | 48 => 59 | 2 => 2 | 52 => 63 | 55 => 66 | 59 => 69 | 60 => 70 | 20 => 20 | 61 => 71 | 65 => 74 | 66 => 75 | 67 => 78 | n => n, fun | 0 => 0 | 1 => 1 | 2 => 3 | 3 => 4 | 4 => 5 | n => n⟩
theorem Tryd.laysPu14 : Go.Proofs.LaysPu.n14 Tryd.prog Tryd.laysPu14_ren := {
  mixed := by kernel_rfl
  f14 := Tryd.func12.trans (congrArg some (by kernel_rfl))
  f16 := Tryd.func15.trans (congrArg some (by kernel_rfl))
  f17 := Tryd.func16.trans (congrArg some (by kernel_rfl))
  f19 := Tryd.func22.trans (congrArg some (by kernel_rfl))
  f20 := Tryd.func23.trans (congrArg some (by kernel_rfl))
  f21 := Tryd.func24.trans (congrArg some (by kernel_rfl))
  f22 := Tryd.func25.trans (congrArg some (by kernel_rfl))
  f23 := Tryd.func26.trans (congrArg some (by kernel_rfl))
  f24 := Tryd.func27.trans (congrArg some (by kernel_rfl))
  f25 := Tryd.func33.trans (congrArg some (by kernel_rfl))
  f26 := Tryd.func34.trans (congrArg some (by kernel_rfl))
  f27 := Tryd.func35.trans (congrArg some (by kernel_rfl))
  f28 := Tryd.func37.trans (congrArg some (by kernel_rfl))
  f29 := Tryd.func39.trans (congrArg some (by kernel_rfl))
  f30 := Tryd.func40.trans (congrArg some (by kernel_rfl))
  f31 := Tryd.func41.trans (congrArg some (by kernel_rfl))
  f32 := Tryd.func42.trans (congrArg some (by kernel_rfl))
  f33 := Tryd.func43.trans (congrArg some (by kernel_rfl))
  f34 := Tryd.func44.trans (congrArg some (by kernel_rfl))
  f35 := Tryd.func45.trans (congrArg some (by kernel_rfl))
  f36 := Tryd.func46.trans (congrArg some (by kernel_rfl))
  f37 := Tryd.func47.trans (congrArg some (by kernel_rfl))
  f38 := Tryd.func48.trans (congrArg some (by kernel_rfl))
  f39 := Tryd.func49.trans (congrArg some (by kernel_rfl))
  f40 := Tryd.func50.trans (congrArg some (by kernel_rfl))
  t0 := Tryd.underlying0
  a0 := Tryd.isAgg0
  z0 := Tryd.sizeOf0
  v0 := Tryd.zeroValue0
  i0 := by kernel_rfl
  t2 := Tryd.underlying2
  a2 := Tryd.isAgg2
  z2 := Tryd.sizeOf2
  v2 := Tryd.zeroValue2
  i2 := by kernel_rfl
  t3 := Tryd.underlying3
  a3 := Tryd.isAgg3
  z3 := Tryd.sizeOf3
  v3 := Tryd.zeroValue3
  i3 := by kernel_rfl
  t4 := Tryd.underlying4
  a4 := Tryd.isAgg4
  z4 := Tryd.sizeOf4
  v4 := Tryd.zeroValue4
  i4 := by kernel_rfl
  t5 := Tryd.underlying5
  a5 := Tryd.isAgg5
  z5 := Tryd.sizeOf5
  v5 := Tryd.zeroValue5
  i5 := by kernel_rfl
  t9 := Tryd.underlying9
  a9 := Tryd.isAgg9
  z9 := Tryd.sizeOf9
  v9 := Tryd.zeroValue9
  i9 := by kernel_rfl
  t20 := Tryd.underlying20
  a20 := Tryd.isAgg20
  z20 := Tryd.sizeOf20
  v20 := Tryd.zeroValue20
  i20 := by kernel_rfl
  t21 := Tryd.underlying21
  a21 := Tryd.isAgg21
  z21 := Tryd.sizeOf21
  v21 := Tryd.zeroValue21
  i21 := by kernel_rfl
  t22 := Tryd.underlying24
  a22 := Tryd.isAgg24
  z22 := Tryd.sizeOf24
  v22 := Tryd.zeroValue24
  i22 := by kernel_rfl
  t24 := Tryd.underlying31
  a24 := Tryd.isAgg31
  z24 := Tryd.sizeOf31
  v24 := Tryd.zeroValue31
  i24 := by kernel_rfl
  t25 := Tryd.underlying32
  a25 := Tryd.isAgg32
  z25 := Tryd.sizeOf32
  v25 := Tryd.zeroValue32
  i25 := by kernel_rfl
  t34 := Tryd.underlying43
  a34 := Tryd.isAgg43
  z34 := Tryd.sizeOf43
  v34 := Tryd.zeroValue43
  i34 := by kernel_rfl
  c34 := by kernel_rfl
  t36 := Tryd.underlying45
  a36 := Tryd.isAgg45
  z36 := Tryd.sizeOf45
  v36 := Tryd.zeroValue45
  i36 := by kernel_rfl
  t37 := Tryd.underlying28
  a37 := Tryd.isAgg28
  z37 := Tryd.sizeOf28
  v37 := Tryd.zeroValue28
  i37 := by kernel_rfl
  t39 := Tryd.underlying46
  a39 := Tryd.isAgg46
  z39 := Tryd.sizeOf46
  v39 := Tryd.zeroValue46
  i39 := by kernel_rfl
  t44 := Tryd.underlying55
  a44 := Tryd.isAgg55
  z44 := Tryd.sizeOf55
  v44 := Tryd.zeroValue55
  i44 := by kernel_rfl
  t47 := Tryd.underlying58
  a47 := Tryd.isAgg58
  z47 := Tryd.sizeOf58
  v47 := Tryd.zeroValue58
  i47 := by kernel_rfl
  t48 := Tryd.underlying59
  a48 := Tryd.isAgg59
  z48 := Tryd.sizeOf59
  v48 := Tryd.zeroValue59
  i48 := by kernel_rfl
  t50 := Tryd.underlying61
  a50 := Tryd.isAgg61
  z50 := Tryd.sizeOf61
  v50 := Tryd.zeroValue61
  i50 := by kernel_rfl
  t52 := Tryd.underlying63
  a52 := Tryd.isAgg63
  z52 := Tryd.sizeOf63
  v52 := Tryd.zeroValue63
  i52 := by kernel_rfl
  t55 := Tryd.underlying66
  a55 := Tryd.isAgg66
  z55 := Tryd.sizeOf66
  v55 := Tryd.zeroValue66
  i55 := by kernel_rfl
  t59 := Tryd.underlying69
  a59 := Tryd.isAgg69
  z59 := Tryd.sizeOf69
  v59 := Tryd.zeroValue69
  i59 := by kernel_rfl
  t60 := Tryd.underlying70
  a60 := Tryd.isAgg70
  z60 := Tryd.sizeOf70
  v60 := Tryd.zeroValue70
  i60 := by kernel_rfl
  t61 := Tryd.underlying71
  a61 := Tryd.isAgg71
  z61 := Tryd.sizeOf71
  t65 := Tryd.underlying74
  a65 := Tryd.isAgg74
  z65 := Tryd.sizeOf74
  v65 := Tryd.zeroValue74
  i65 := by kernel_rfl
  t66 := Tryd.underlying75
  a66 := Tryd.isAgg75
  z66 := Tryd.sizeOf75
  v66 := Tryd.zeroValue75
  i66 := by kernel_rfl
  t67 := Tryd.underlying78
  a67 := Tryd.isAgg78
  z67 := Tryd.sizeOf78
  v67 := Tryd.zeroValue78
  i67 := by kernel_rfl
  g0 := by kernel_rfl
  m0 := by kernel_rfl
  g1 := by kernel_rfl
  m1 := by kernel_rfl
  g2 := by kernel_rfl
  m2 := by kernel_rfl
  g3 := by kernel_rfl
  m3 := by kernel_rfl
  g4 := by kernel_rfl
  m4 := by kernel_rfl }
open Go.RowKit in
theorem Tryd.strconv_ParseUint_10_at64_ok (s : ByteArray) (hmax : s.size ≤ 9223372036854775806) (u : Nat) (h : Lib.parseUintB 64 s.data.toList = .ok u) (w : World) :
    Calls Tryd.prog 12 #[.string s, .int .i64 10, .int .i64 64] w fun e w' => e = .returned (.tuple #[.int .u64 u, .nilIface]) ∧ (w' = w ∨ w' = Lib.bytesWorld w 5 s) := Any.strconv_ParseUint_10_at64_ok Tryd.laysPu14 s hmax u h w
open Go.RowKit in
theorem Tryd.strconv_ParseUint_10_at64_range (s : ByteArray) (hlim : s.size ≤ 281474976710656) (h : Lib.parseUintB 64 s.data.toList = .range) (ev : Value) (w : World) (hv : w.cell? ⟨1, 0, none⟩ = some ev) (hev : ev = .nilIface ∨ ∃ te pe, ev = .iface te pe) :
    Calls Tryd.prog 12 #[.string s, .int .i64 10, .int .i64 64] w fun e w' => ∃ N, e = .returned (.tuple #[.int .u64 18446744073709551615, .iface 46 (.pointer (some ⟨N, 0, none⟩))]) ∧ w.heap.size ≤ N ∧ w'.heap[N]? = some (.cells #[.string ⟨#[80, 97, 114, 115, 101, 85, 105, 110, 116]⟩, .string s, ev] 55 (0, 0)) ∧ Below w.heap.size w w' := Any.strconv_ParseUint_10_at64_range Tryd.laysPu14 s hlim h ev w hv hev
def Tryd.lays217_ren : Go.Shelf.Ren := ⟨fun | 217 => 36 | 266 => 38 | n => n, fun | 9 => 9 | 5 => 5 | 3 => 3 | n => n, fun | n => n⟩
theorem Tryd.lays217 : Go.Proofs.Lays.n217 Tryd.prog Tryd.lays217_ren := {
  mixed := by kernel_rfl
  f217 := Tryd.func36.trans (congrArg some (by kernel_rfl))
  f266 := Tryd.func38.trans (congrArg some (by kernel_rfl))
  t3 := Tryd.underlying3
  a3 := Tryd.isAgg3
  z3 := Tryd.sizeOf3
  v3 := Tryd.zeroValue3
  t5 := Tryd.underlying5
  a5 := Tryd.isAgg5
  z5 := Tryd.sizeOf5
  v5 := Tryd.zeroValue5
  t9 := Tryd.underlying9
  a9 := Tryd.isAgg9
  z9 := Tryd.sizeOf9
  v9 := Tryd.zeroValue9 }
open Go.RowKit Go.Lib in
theorem Tryd.stringslite_IndexByte (s : ByteArray) (c : Int) (w : World) :
    Calls Tryd.prog 36 #[.string s, .int .u8 c] w fun e w' => e = .returned (.int .i64 (Lib.indexByte s.data.toList c.toNat.toUInt8)) ∧ w' = w := Any.stringslite_IndexByte Tryd.lays217 s c w
def Tryd.lays224_ren : Go.Shelf.Ren := ⟨fun | 224 => 31 | n => n, fun | 3 => 3 | n => n, fun | n => n⟩
theorem Tryd.lays224 : Go.Proofs.Lays.n224 Tryd.prog Tryd.lays224_ren := {
  mixed := by kernel_rfl
  f224 := Tryd.func31.trans (congrArg some (by kernel_rfl))
  t3 := Tryd.underlying3
  a3 := Tryd.isAgg3
  z3 := Tryd.sizeOf3
  v3 := Tryd.zeroValue3 }
open Go.RowKit Go.Lib in
theorem Tryd.bytealg_Cutover (n : Int) (h0 : 0 ≤ n) (h1 : n < 4611686018427387904) (w : World) :
    Calls Tryd.prog 31 #[.int .i64 n] w fun e w' => e = .returned (.int .i64 ((n + 16) / 8)) ∧ w' = w := Any.bytealg_Cutover Tryd.lays224 n h0 h1 w
def Tryd.lays206_ren : Go.Shelf.Ren := ⟨fun | 206 => 28 | n => n, fun | 9 => 9 | 4 => 4 | 3 => 3 | n => n, fun | n => n⟩
theorem Tryd.lays206 : Go.Proofs.Lays.n206 Tryd.prog Tryd.lays206_ren := {
  mixed := by kernel_rfl
  f206 := Tryd.func28.trans (congrArg some (by kernel_rfl))
  t3 := Tryd.underlying3
  a3 := Tryd.isAgg3
  z3 := Tryd.sizeOf3
  v3 := Tryd.zeroValue3
  t4 := Tryd.underlying4
  a4 := Tryd.isAgg4
  z4 := Tryd.sizeOf4
  v4 := Tryd.zeroValue4
  t9 := Tryd.underlying9
  a9 := Tryd.isAgg9
  z9 := Tryd.sizeOf9
  v9 := Tryd.zeroValue9 }
open Go.RowKit Go.Lib in
theorem Tryd.stringslite_HasPrefix (s p : ByteArray) (w : World) :
    Calls Tryd.prog 28 #[.string s, .string p] w fun e w' => e = .returned (.bool (Lib.hasPrefix s.data.toList p.data.toList)) ∧ w' = w := Any.stringslite_HasPrefix Tryd.lays206 s p w
def Tryd.lays208_ren : Go.Shelf.Ren := ⟨fun | 208 => 17 | 206 => 28 | n => n, fun | 9 => 9 | 4 => 4 | 3 => 3 | n => n, fun | n => n⟩
theorem Tryd.lays208 : Go.Proofs.Lays.n208 Tryd.prog Tryd.lays208_ren := {
  mixed := by kernel_rfl
  f206 := Tryd.func28.trans (congrArg some (by kernel_rfl))
  f208 := Tryd.func17.trans (congrArg some (by kernel_rfl))
  t3 := Tryd.underlying3
  a3 := Tryd.isAgg3
  z3 := Tryd.sizeOf3
  v3 := Tryd.zeroValue3
  t4 := Tryd.underlying4
  a4 := Tryd.isAgg4
  z4 := Tryd.sizeOf4
  v4 := Tryd.zeroValue4
  t9 := Tryd.underlying9
  a9 := Tryd.isAgg9
  z9 := Tryd.sizeOf9
  v9 := Tryd.zeroValue9 }
open Go.RowKit Go.Lib in
theorem Tryd.stringslite_TrimPrefix (s p : ByteArray) (w : World) :
    Calls Tryd.prog 17 #[.string s, .string p] w fun e w' => e = .returned (.string ⟨(Lib.trimPrefix s.data.toList p.data.toList).toArray⟩) ∧ w' = w := Any.stringslite_TrimPrefix Tryd.lays208 s p w
def Tryd.lays101_ren : Go.Shelf.Ren := ⟨fun | 101 => 13 | 208 => 17 | 206 => 28 | n => n, fun | 9 => 9 | 4 => 4 | 3 => 3 | n => n, fun | n => n⟩
theorem Tryd.lays101 : Go.Proofs.Lays.n101 Tryd.prog Tryd.lays101_ren := {
  mixed := by kernel_rfl
  f101 := Tryd.func13.trans (congrArg some (by kernel_rfl))
  f206 := Tryd.func28.trans (congrArg some (by kernel_rfl))
  f208 := Tryd.func17.trans (congrArg some (by kernel_rfl))
  t3 := Tryd.underlying3
  a3 := Tryd.isAgg3
  z3 := Tryd.sizeOf3
  v3 := Tryd.zeroValue3
  t4 := Tryd.underlying4
  a4 := Tryd.isAgg4
  z4 := Tryd.sizeOf4
  v4 := Tryd.zeroValue4
  t9 := Tryd.underlying9
  a9 := Tryd.isAgg9
  z9 := Tryd.sizeOf9
  v9 := Tryd.zeroValue9 }
open Go.RowKit Go.Lib in
theorem Tryd.strings_TrimPrefix (s p : ByteArray) (w : World) :
    Calls Tryd.prog 13 #[.string s, .string p] w fun e w' => e = .returned (.string ⟨(Lib.trimPrefix s.data.toList p.data.toList).toArray⟩) ∧ w' = w := Any.strings_TrimPrefix Tryd.lays101 s p w
def Tryd.lays152_ren : Go.Shelf.Ren := ⟨fun | 152 => 18 | 137 => 29 | 119 => 30 | 224 => 31 | 225 => 32 | 217 => 36 | 266 => 38 | n => n, fun | 9 => 9 | 21 => 21 | 3 => 3 | 4 => 4 | 5 => 5 | 0 => 0 | 46 => 45 | n => n, fun | n => n⟩
theorem Tryd.lays152 : Go.Proofs.Lays.n152 Tryd.prog Tryd.lays152_ren := {
  mixed := by kernel_rfl
  f119 := Tryd.func30.trans (congrArg some (by kernel_rfl))
  f137 := Tryd.func29.trans (congrArg some (by kernel_rfl))
  f152 := Tryd.func18.trans (congrArg some (by kernel_rfl))
  f217 := Tryd.func36.trans (congrArg some (by kernel_rfl))
  f224 := Tryd.func31.trans (congrArg some (by kernel_rfl))
  f225 := Tryd.func32.trans (congrArg some (by kernel_rfl))
  f266 := Tryd.func38.trans (congrArg some (by kernel_rfl))
  t0 := Tryd.underlying0
  a0 := Tryd.isAgg0
  z0 := Tryd.sizeOf0
  v0 := Tryd.zeroValue0
  t3 := Tryd.underlying3
  a3 := Tryd.isAgg3
  z3 := Tryd.sizeOf3
  v3 := Tryd.zeroValue3
  t4 := Tryd.underlying4
  a4 := Tryd.isAgg4
  z4 := Tryd.sizeOf4
  v4 := Tryd.zeroValue4
  t5 := Tryd.underlying5
  a5 := Tryd.isAgg5
  z5 := Tryd.sizeOf5
  v5 := Tryd.zeroValue5
  t9 := Tryd.underlying9
  a9 := Tryd.isAgg9
  z9 := Tryd.sizeOf9
  v9 := Tryd.zeroValue9
  t21 := Tryd.underlying21
  a21 := Tryd.isAgg21
  z21 := Tryd.sizeOf21
  v21 := Tryd.zeroValue21
  t46 := Tryd.underlying45
  a46 := Tryd.isAgg45
  z46 := Tryd.sizeOf45
  v46 := Tryd.zeroValue45 }
open Go.RowKit Go.Lib in
theorem Tryd.strings_IndexRune_ascii (s : ByteArray) (r : Int) (w : World) (h0 : 0 ≤ r) (h1 : r < 128) :
    Calls Tryd.prog 18 #[.string s, .int .i32 r] w fun e w' => e = .returned (.int .i64 (Lib.indexByte s.data.toList r.toNat.toUInt8)) ∧ w' = w := Any.strings_IndexRune_ascii Tryd.lays152 s r w h0 h1
def Tryd.lays226_ren : Go.Shelf.Ren := ⟨fun | 226 => 19 | n => n, fun | 3 => 3 | 4 => 4 | n => n, fun | n => n⟩
theorem Tryd.lays226 : Go.Proofs.Lays.n226 Tryd.prog Tryd.lays226_ren := {
  mixed := by kernel_rfl
  f226 := Tryd.func19.trans (congrArg some (by kernel_rfl))
  t3 := Tryd.underlying3
  a3 := Tryd.isAgg3
  z3 := Tryd.sizeOf3
  v3 := Tryd.zeroValue3
  t4 := Tryd.underlying4
  a4 := Tryd.isAgg4
  z4 := Tryd.sizeOf4
  v4 := Tryd.zeroValue4 }
open Go.RowKit Go.Lib in
theorem Tryd.strings_shouldUseASCIISet (n : Int) (w : World) :
    Calls Tryd.prog 19 #[.int .i64 n] w fun e w' => e = .returned (.bool (decide (8 < n))) ∧ w' = w := Any.strings_shouldUseASCIISet Tryd.lays226 n w
def Tryd.lays153_ren : Go.Shelf.Ren := ⟨fun | 153 => 14 | 152 => 18 | 226 => 19 | 227 => 20 | 228 => 21 | 137 => 29 | 119 => 30 | 224 => 31 | 225 => 32 | 217 => 36 | 266 => 38 | n => n, fun | 9 => 9 | 3 => 3 | 4 => 4 | 5 => 5 | 21 => 21 | 117 => 41 | 116 => 40 | 0 => 0 | 46 => 45 | 124 => 52 | n => n, fun | n => n⟩
theorem Tryd.lays153 : Go.Proofs.Lays.n153 Tryd.prog Tryd.lays153_ren := {
  mixed := by kernel_rfl
  f119 := Tryd.func30.trans (congrArg some (by kernel_rfl))
  f137 := Tryd.func29.trans (congrArg some (by kernel_rfl))
  f152 := Tryd.func18.trans (congrArg some (by kernel_rfl))
  f153 := Tryd.func14.trans (congrArg some (by kernel_rfl))
  f217 := Tryd.func36.trans (congrArg some (by kernel_rfl))
  f224 := Tryd.func31.trans (congrArg some (by kernel_rfl))
  f225 := Tryd.func32.trans (congrArg some (by kernel_rfl))
  f226 := Tryd.func19.trans (congrArg some (by kernel_rfl))
  f227 := Tryd.func20.trans (congrArg some (by kernel_rfl))
  f228 := Tryd.func21.trans (congrArg some (by kernel_rfl))
  f266 := Tryd.func38.trans (congrArg some (by kernel_rfl))
  t0 := Tryd.underlying0
  a0 := Tryd.isAgg0
  z0 := Tryd.sizeOf0
  v0 := Tryd.zeroValue0
  t3 := Tryd.underlying3
  a3 := Tryd.isAgg3
  z3 := Tryd.sizeOf3
  v3 := Tryd.zeroValue3
  t4 := Tryd.underlying4
  a4 := Tryd.isAgg4
  z4 := Tryd.sizeOf4
  v4 := Tryd.zeroValue4
  t5 := Tryd.underlying5
  a5 := Tryd.isAgg5
  z5 := Tryd.sizeOf5
  v5 := Tryd.zeroValue5
  t9 := Tryd.underlying9
  a9 := Tryd.isAgg9
  z9 := Tryd.sizeOf9
  v9 := Tryd.zeroValue9
  t21 := Tryd.underlying21
  a21 := Tryd.isAgg21
  z21 := Tryd.sizeOf21
  v21 := Tryd.zeroValue21
  t46 := Tryd.underlying45
  a46 := Tryd.isAgg45
  z46 := Tryd.sizeOf45
  v46 := Tryd.zeroValue45
  t116 := Tryd.underlying40
  a116 := Tryd.isAgg40
  z116 := Tryd.sizeOf40
  t117 := Tryd.underlying41
  a117 := Tryd.isAgg41
  z117 := Tryd.sizeOf41
  v117 := Tryd.zeroValue41
  t124 := Tryd.underlying52
  a124 := Tryd.isAgg52
  z124 := Tryd.sizeOf52
  v124 := Tryd.zeroValue52 }
open Go.RowKit Go.Lib in
theorem Tryd.strings_IndexAny_none (s chars : ByteArray) (w : World) (h0 : chars.size = 0) :
    Calls Tryd.prog 14 #[.string s, .string chars] w fun e w' => e = .returned (.int .i64 (Lib.indexAny s.data.toList chars.data.toList)) ∧ w' = w := Any.strings_IndexAny_none Tryd.lays153 s chars w h0
open Go.RowKit Go.Lib in
theorem Tryd.strings_IndexAny_one (s chars : ByteArray) (w : World) (h1 : chars.size = 1) (hascii : ∀ (j : Nat) b, chars.data.toList[j]? = some b → b.toNat < 128) :
    Calls Tryd.prog 14 #[.string s, .string chars] w fun e w' => e = .returned (.int .i64 (Lib.indexAny s.data.toList chars.data.toList)) ∧ w' = w := Any.strings_IndexAny_one Tryd.lays153 s chars w h1 hascii
open Go.RowKit Go.Lib in
theorem Tryd.strings_IndexAny_short (s chars : ByteArray) (w : World) (h2 : 2 ≤ chars.size) (h8 : s.size ≤ 8) (hascii : ∀ (j : Nat) b, s.data.toList[j]? = some b → b.toNat < 128) :
    Calls Tryd.prog 14 #[.string s, .string chars] w fun e w' => e = .returned (.int .i64 (Lib.indexAny s.data.toList chars.data.toList)) ∧ ∃ pos, w' = w.iter s pos := Any.strings_IndexAny_short Tryd.lays153 s chars w h2 h8 hascii
def Tryd.lays227_ren : Go.Shelf.Ren := ⟨fun | 227 => 20 | n => n, fun | 9 => 9 | 116 => 40 | 4 => 4 | 0 => 0 | 3 => 3 | 5 => 5 | n => n, fun | n => n⟩
theorem Tryd.lays227 : Go.Proofs.Lays.n227 Tryd.prog Tryd.lays227_ren := {
  mixed := by kernel_rfl
  f227 := Tryd.func20.trans (congrArg some (by kernel_rfl))
  t0 := Tryd.underlying0
  a0 := Tryd.isAgg0
  z0 := Tryd.sizeOf0
  v0 := Tryd.zeroValue0
  t3 := Tryd.underlying3
  a3 := Tryd.isAgg3
  z3 := Tryd.sizeOf3
  v3 := Tryd.zeroValue3
  t4 := Tryd.underlying4
  a4 := Tryd.isAgg4
  z4 := Tryd.sizeOf4
  v4 := Tryd.zeroValue4
  t5 := Tryd.underlying5
  a5 := Tryd.isAgg5
  z5 := Tryd.sizeOf5
  v5 := Tryd.zeroValue5
  t9 := Tryd.underlying9
  a9 := Tryd.isAgg9
  z9 := Tryd.sizeOf9
  v9 := Tryd.zeroValue9
  t116 := Tryd.underlying40
  a116 := Tryd.isAgg40
  z116 := Tryd.sizeOf40 }
open Go.RowKit Go.Lib in
theorem Tryd.strings_makeASCIISet (hv116 : ∀ w, (zeroValue 40).run Tryd.prog w = .ok (.agg (Array.replicate 256 (.bool false))) w) (chars : ByteArray) (w : World) (hs : chars.size < 4294967281) (hascii : ∀ (j : Nat) b, chars.data.toList[j]? = some b → b.toNat < 128) :
    Calls Tryd.prog 20 #[.string chars] w fun e w' => e = .returned (.tuple #[.agg (Lib.setCells chars.data.toList), .bool true]) ∧ w' = w.alloc (.cells (Lib.setCells chars.data.toList) 40) := Any.strings_makeASCIISet Tryd.lays227 hv116 (by kernel_rfl) chars w hs hascii
def Tryd.lays228_ren : Go.Shelf.Ren := ⟨fun | 228 => 21 | n => n, fun | 124 => 52 | 5 => 5 | 4 => 4 | 0 => 0 | 116 => 40 | n => n, fun | n => n⟩
theorem Tryd.lays228 : Go.Proofs.Lays.n228 Tryd.prog Tryd.lays228_ren := {
  mixed := by kernel_rfl
  f228 := Tryd.func21.trans (congrArg some (by kernel_rfl))
  t0 := Tryd.underlying0
  a0 := Tryd.isAgg0
  z0 := Tryd.sizeOf0
  v0 := Tryd.zeroValue0
  t4 := Tryd.underlying4
  a4 := Tryd.isAgg4
  z4 := Tryd.sizeOf4
  v4 := Tryd.zeroValue4
  t5 := Tryd.underlying5
  a5 := Tryd.isAgg5
  z5 := Tryd.sizeOf5
  v5 := Tryd.zeroValue5
  t116 := Tryd.underlying40
  a116 := Tryd.isAgg40
  z116 := Tryd.sizeOf40
  t124 := Tryd.underlying52
  a124 := Tryd.isAgg52
  z124 := Tryd.sizeOf52
  v124 := Tryd.zeroValue52 }
open Go.RowKit Go.Lib in
theorem Tryd.asciiSet_contains (b : Nat) (x : UInt8) (v : Bool) (w : World) (hc : w.cell? ⟨b, x.toNat, none⟩ = some (.bool v)) :
    Calls Tryd.prog 21 #[.pointer (some ⟨b, 0, none⟩), .int .u8 x.toNat] w fun e w' => e = .returned (.bool v) ∧ w' = w := Any.asciiSet_contains Tryd.lays228 b x v w hc
open Go.RowKit Go.Lib in
theorem Tryd.strings_IndexAny_long (hv116 : ∀ w, (zeroValue 40).run Tryd.prog w = .ok (.agg (Array.replicate 256 (.bool false))) w) (s chars : ByteArray) (w : World) (h2 : 2 ≤ chars.size) (h8 : 8 < s.size) (hs : s.size < 4294967281) (hcs : chars.size < 4294967281) (hascii : ∀ (j : Nat) b, chars.data.toList[j]? = some b → b.toNat < 128) :
    Calls Tryd.prog 14 #[.string s, .string chars] w fun e w' => e = .returned (.int .i64 (Lib.indexAny s.data.toList chars.data.toList)) ∧ w' = ((w.alloc (.cells (Lib.setCells chars.data.toList) 40)).alloc (.cells (Lib.setCells chars.data.toList) 40)) := Any.strings_IndexAny_long Tryd.lays153 hv116 (by kernel_rfl) s chars w h2 h8 hs hcs hascii
open Go.RowKit Go.Lib in
theorem Tryd.strings_IndexAny (hv116 : ∀ w, (zeroValue 40).run Tryd.prog w = .ok (.agg (Array.replicate 256 (.bool false))) w) (s chars : ByteArray) (w : World) (hs : s.size < 4294967281) (hcs : chars.size < 4294967281) (has : ∀ (j : Nat) b, s.data.toList[j]? = some b → b.toNat < 128) (hac : ∀ (j : Nat) b, chars.data.toList[j]? = some b → b.toNat < 128) :
    Calls Tryd.prog 14 #[.string s, .string chars] w fun e w' => e = .returned (.int .i64 (Lib.indexAny s.data.toList chars.data.toList)) ∧ Below w.heap.size w w' := Any.strings_IndexAny Tryd.lays153 hv116 (by kernel_rfl) s chars w hs hcs has hac
def Tryd.lays150_ren : Go.Shelf.Ren := ⟨fun | 150 => 11 | 153 => 14 | 152 => 18 | 226 => 19 | 227 => 20 | 228 => 21 | 137 => 29 | 119 => 30 | 224 => 31 | 225 => 32 | 217 => 36 | 266 => 38 | n => n, fun | 9 => 9 | 4 => 4 | 3 => 3 | 5 => 5 | 21 => 21 | 117 => 41 | 116 => 40 | 0 => 0 | 46 => 45 | 124 => 52 | n => n, fun | n => n⟩
theorem Tryd.lays150 : Go.Proofs.Lays.n150 Tryd.prog Tryd.lays150_ren := {
  mixed := by kernel_rfl
  f119 := Tryd.func30.trans (congrArg some (by kernel_rfl))
  f137 := Tryd.func29.trans (congrArg some (by kernel_rfl))
  f150 := Tryd.func11.trans (congrArg some (by kernel_rfl))
  f152 := Tryd.func18.trans (congrArg some (by kernel_rfl))
  f153 := Tryd.func14.trans (congrArg some (by kernel_rfl))
  f217 := Tryd.func36.trans (congrArg some (by kernel_rfl))
  f224 := Tryd.func31.trans (congrArg some (by kernel_rfl))
  f225 := Tryd.func32.trans (congrArg some (by kernel_rfl))
  f226 := Tryd.func19.trans (congrArg some (by kernel_rfl))
  f227 := Tryd.func20.trans (congrArg some (by kernel_rfl))
  f228 := Tryd.func21.trans (congrArg some (by kernel_rfl))
  f266 := Tryd.func38.trans (congrArg some (by kernel_rfl))
  t0 := Tryd.underlying0
  a0 := Tryd.isAgg0
  z0 := Tryd.sizeOf0
  v0 := Tryd.zeroValue0
  t3 := Tryd.underlying3
  a3 := Tryd.isAgg3
  z3 := Tryd.sizeOf3
  v3 := Tryd.zeroValue3
  t4 := Tryd.underlying4
  a4 := Tryd.isAgg4
  z4 := Tryd.sizeOf4
  v4 := Tryd.zeroValue4
  t5 := Tryd.underlying5
  a5 := Tryd.isAgg5
  z5 := Tryd.sizeOf5
  v5 := Tryd.zeroValue5
  t9 := Tryd.underlying9
  a9 := Tryd.isAgg9
  z9 := Tryd.sizeOf9
  v9 := Tryd.zeroValue9
  t21 := Tryd.underlying21
  a21 := Tryd.isAgg21
  z21 := Tryd.sizeOf21
  v21 := Tryd.zeroValue21
  t46 := Tryd.underlying45
  a46 := Tryd.isAgg45
  z46 := Tryd.sizeOf45
  v46 := Tryd.zeroValue45
  t116 := Tryd.underlying40
  a116 := Tryd.isAgg40
  z116 := Tryd.sizeOf40
  t117 := Tryd.underlying41
  a117 := Tryd.isAgg41
  z117 := Tryd.sizeOf41
  v117 := Tryd.zeroValue41
  t124 := Tryd.underlying52
  a124 := Tryd.isAgg52
  z124 := Tryd.sizeOf52
  v124 := Tryd.zeroValue52 }
open Go.RowKit Go.Lib in
theorem Tryd.strings_ContainsAny (hv116 : ∀ w, (zeroValue 40).run Tryd.prog w = .ok (.agg (Array.replicate 256 (.bool false))) w) (s chars : ByteArray) (w : World) (hs : s.size < 4294967281) (hcs : chars.size < 4294967281) (has : ∀ (j : Nat) b, s.data.toList[j]? = some b → b.toNat < 128) (hac : ∀ (j : Nat) b, chars.data.toList[j]? = some b → b.toNat < 128) :
    Calls Tryd.prog 11 #[.string s, .string chars] w fun e w' => e = .returned (.bool (Lib.containsAny s.data.toList chars.data.toList)) ∧ Below w.heap.size w w' := Any.strings_ContainsAny Tryd.lays150 hv116 (by kernel_rfl) s chars w hs hcs has hac
open Go.RowKit Go.Lib in
theorem Tryd.strings_IndexAny_laid (s chars : ByteArray) (w : World) (hs : s.size < 4294967281) (hcs : chars.size < 4294967281) (has : ∀ (j : Nat) b, s.data.toList[j]? = some b → b.toNat < 128) (hac : ∀ (j : Nat) b, chars.data.toList[j]? = some b → b.toNat < 128) :
    Calls Tryd.prog 14 #[.string s, .string chars] w fun e w' => e = .returned (.int .i64 (Lib.indexAny s.data.toList chars.data.toList)) ∧ Below w.heap.size w w' := Any.strings_IndexAny_laid Tryd.lays153 (by kernel_rfl) s chars w hs hcs has hac
open Go.RowKit Go.Lib in
theorem Tryd.strings_ContainsAny_laid (s chars : ByteArray) (w : World) (hs : s.size < 4294967281) (hcs : chars.size < 4294967281) (has : ∀ (j : Nat) b, s.data.toList[j]? = some b → b.toNat < 128) (hac : ∀ (j : Nat) b, chars.data.toList[j]? = some b → b.toNat < 128) :
    Calls Tryd.prog 11 #[.string s, .string chars] w fun e w' => e = .returned (.bool (Lib.containsAny s.data.toList chars.data.toList)) ∧ Below w.heap.size w w' := Any.strings_ContainsAny_laid Tryd.lays150 (by kernel_rfl) s chars w hs hcs has hac
end Go.Proofs
