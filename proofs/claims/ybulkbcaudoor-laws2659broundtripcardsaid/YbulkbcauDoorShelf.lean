/-
  LAID BY THE KIT's TOOLS AT THIS SEAT's TRANSLATION (the shelf's contracts in plain words), cut to what is used: strconv.ParseUint (10), strings.LastIndexByte (9).
-/
import Derived.Shelf.Pu.ParseUintPublic10
import Derived.Shelf.Strings.LastIndex
import Derived.Test.YbulkbcauDoorProg
import Derived.KernelRfl
namespace Go.Proofs
open Go.Shelf
def Ybad.laysPu14_ren : Go.Shelf.Ren := ⟨fun | 14 => 10 | 16 => 19 | 17 => 20 | 19 => 30 | 20 => 31 | 21 => 32 | 22 => 33 | 23 => 34 | 24 => 35 | 25 => 43 | 27 => 45 | 26 => 44 | 28 => 48 | 29 => 49 | 30 => 26 | 31 => 27 | 32 => 28 | 33 => 29 | 35 => 39 | 34 => 38 | 36 => 40 | 37 => 41 | 38 => 42 | 39 => 46 | 40 => 47 | n => n, fun | 9 => 9 | 3 => 3 | 22 => 25 | 24 => 31 | 25 => 32 | 4 => 4 | 34 => 60 | 5 => 5 | 36 => 34 | 37 => 39 | 0 => 0 | 39 => 62 | 21 => 21 | 44 => 76 | 47 => 53 | 50 => 81 | 48 => 79 | 2 => 2 | 52 => 55 | 55 => 58 | 59 => 70 | 60 => 48 | 20 => 20 | 61 => 71 | 65 => 82 | 66 => 83 | 67 => 46 | n => n, fun | 0 => 2 | 1 => 3 | 2 => 1 | 3 => 4 | 4 => 5 | n => n⟩
theorem Ybad.laysPu14 : Go.Proofs.LaysPu.n14 Ybad.prog Ybad.laysPu14_ren := {
  mixed := by kernel_rfl
  f14 := Ybad.func10.trans (congrArg some (by kernel_rfl))
  f16 := Ybad.func19.trans (congrArg some (by kernel_rfl))
  f17 := Ybad.func20.trans (congrArg some (by kernel_rfl))
  f19 := Ybad.func30.trans (congrArg some (by kernel_rfl))
  f20 := Ybad.func31.trans (congrArg some (by kernel_rfl))
  f21 := Ybad.func32.trans (congrArg some (by kernel_rfl))
  f22 := Ybad.func33.trans (congrArg some (by kernel_rfl))
  f23 := Ybad.func34.trans (congrArg some (by kernel_rfl))
  f24 := Ybad.func35.trans (congrArg some (by kernel_rfl))
  f25 := Ybad.func43.trans (congrArg some (by kernel_rfl))
  f26 := Ybad.func44.trans (congrArg some (by kernel_rfl))
  f27 := Ybad.func45.trans (congrArg some (by kernel_rfl))
  f28 := Ybad.func48.trans (congrArg some (by kernel_rfl))
  f29 := Ybad.func49.trans (congrArg some (by kernel_rfl))
  f30 := Ybad.func26.trans (congrArg some (by kernel_rfl))
  f31 := Ybad.func27.trans (congrArg some (by kernel_rfl))
  f32 := Ybad.func28.trans (congrArg some (by kernel_rfl))
  f33 := Ybad.func29.trans (congrArg some (by kernel_rfl))
  f34 := Ybad.func38.trans (congrArg some (by kernel_rfl))
  f35 := Ybad.func39.trans (congrArg some (by kernel_rfl))
  f36 := Ybad.func40.trans (congrArg some (by kernel_rfl))
  f37 := Ybad.func41.trans (congrArg some (by kernel_rfl))
  f38 := Ybad.func42.trans (congrArg some (by kernel_rfl))
  f39 := Ybad.func46.trans (congrArg some (by kernel_rfl))
  f40 := Ybad.func47.trans (congrArg some (by kernel_rfl))
  t0 := Ybad.underlying0
  a0 := Ybad.isAgg0
  z0 := Ybad.sizeOf0
  v0 := Ybad.zeroValue0
  i0 := by kernel_rfl
  t2 := Ybad.underlying2
  a2 := Ybad.isAgg2
  z2 := Ybad.sizeOf2
  v2 := Ybad.zeroValue2
  i2 := by kernel_rfl
  t3 := Ybad.underlying3
  a3 := Ybad.isAgg3
  z3 := Ybad.sizeOf3
  v3 := Ybad.zeroValue3
  i3 := by kernel_rfl
  t4 := Ybad.underlying4
  a4 := Ybad.isAgg4
  z4 := Ybad.sizeOf4
  v4 := Ybad.zeroValue4
  i4 := by kernel_rfl
  t5 := Ybad.underlying5
  a5 := Ybad.isAgg5
  z5 := Ybad.sizeOf5
  v5 := Ybad.zeroValue5
  i5 := by kernel_rfl
  t9 := Ybad.underlying9
  a9 := Ybad.isAgg9
  z9 := Ybad.sizeOf9
  v9 := Ybad.zeroValue9
  i9 := by kernel_rfl
  t20 := Ybad.underlying20
  a20 := Ybad.isAgg20
  z20 := Ybad.sizeOf20
  v20 := Ybad.zeroValue20
  i20 := by kernel_rfl
  t21 := Ybad.underlying21
  a21 := Ybad.isAgg21
  z21 := Ybad.sizeOf21
  v21 := Ybad.zeroValue21
  i21 := by kernel_rfl
  t22 := Ybad.underlying25
  a22 := Ybad.isAgg25
  z22 := Ybad.sizeOf25
  v22 := Ybad.zeroValue25
  i22 := by kernel_rfl
  t24 := Ybad.underlying31
  a24 := Ybad.isAgg31
  z24 := Ybad.sizeOf31
  v24 := Ybad.zeroValue31
  i24 := by kernel_rfl
  t25 := Ybad.underlying32
  a25 := Ybad.isAgg32
  z25 := Ybad.sizeOf32
  v25 := Ybad.zeroValue32
  i25 := by kernel_rfl
  t34 := Ybad.underlying60
  a34 := Ybad.isAgg60
  z34 := Ybad.sizeOf60
  v34 := Ybad.zeroValue60
  i34 := by kernel_rfl
  c34 := by kernel_rfl
  t36 := Ybad.underlying34
  a36 := Ybad.isAgg34
  z36 := Ybad.sizeOf34
  v36 := Ybad.zeroValue34
  i36 := by kernel_rfl
  t37 := Ybad.underlying39
  a37 := Ybad.isAgg39
  z37 := Ybad.sizeOf39
  v37 := Ybad.zeroValue39
  i37 := by kernel_rfl
  t39 := Ybad.underlying62
  a39 := Ybad.isAgg62
  z39 := Ybad.sizeOf62
  v39 := Ybad.zeroValue62
  i39 := by kernel_rfl
  t44 := Ybad.underlying76
  a44 := Ybad.isAgg76
  z44 := Ybad.sizeOf76
  v44 := Ybad.zeroValue76
  i44 := by kernel_rfl
  t47 := Ybad.underlying53
  a47 := Ybad.isAgg53
  z47 := Ybad.sizeOf53
  v47 := Ybad.zeroValue53
  i47 := by kernel_rfl
  t48 := Ybad.underlying79
  a48 := Ybad.isAgg79
  z48 := Ybad.sizeOf79
  v48 := Ybad.zeroValue79
  i48 := by kernel_rfl
  t50 := Ybad.underlying81
  a50 := Ybad.isAgg81
  z50 := Ybad.sizeOf81
  v50 := Ybad.zeroValue81
  i50 := by kernel_rfl
  t52 := Ybad.underlying55
  a52 := Ybad.isAgg55
  z52 := Ybad.sizeOf55
  v52 := Ybad.zeroValue55
  i52 := by kernel_rfl
  t55 := Ybad.underlying58
  a55 := Ybad.isAgg58
  z55 := Ybad.sizeOf58
  v55 := Ybad.zeroValue58
  i55 := by kernel_rfl
  t59 := Ybad.underlying70
  a59 := Ybad.isAgg70
  z59 := Ybad.sizeOf70
  v59 := Ybad.zeroValue70
  i59 := by kernel_rfl
  t60 := Ybad.underlying48
  a60 := Ybad.isAgg48
  z60 := Ybad.sizeOf48
  v60 := Ybad.zeroValue48
  i60 := by kernel_rfl
  t61 := Ybad.underlying71
  a61 := Ybad.isAgg71
  z61 := Ybad.sizeOf71
  t65 := Ybad.underlying82
  a65 := Ybad.isAgg82
  z65 := Ybad.sizeOf82
  v65 := Ybad.zeroValue82
  i65 := by kernel_rfl
  t66 := Ybad.underlying83
  a66 := Ybad.isAgg83
  z66 := Ybad.sizeOf83
  v66 := Ybad.zeroValue83
  i66 := by kernel_rfl
  t67 := Ybad.underlying46
  a67 := Ybad.isAgg46
  z67 := Ybad.sizeOf46
  v67 := Ybad.zeroValue46
  i67 := by kernel_rfl
  g0 := by kernel_rfl
  m0 := by kernel_rfl
  g1 := by kernel_rfl
  m1 := by kernel_rfl
  g2 := by kernel_rfl
  m2 := by kernel_rfl
  g3 := by kernel_rfl
  m3 := by kernel_rfl
  g4 := by kernel_rfl
  m4 := by kernel_rfl }
open Go.RowKit in
theorem Ybad.strconv_ParseUint_10_at0_ok (s : ByteArray) (hmax : s.size ≤ 9223372036854775806) (u : Nat) (h : Lib.parseUintB 64 s.data.toList = .ok u) (w : World) :
    Calls Ybad.prog 10 #[.string s, .int .i64 10, .int .i64 0] w fun e w' => e = .returned (.tuple #[.int .u64 u, .nilIface]) ∧ (w' = w ∨ w' = Lib.bytesWorld w 5 s) := Any.strconv_ParseUint_10_at0_ok Ybad.laysPu14 s hmax u h w
def Ybad.lays149_ren : Go.Shelf.Ren := ⟨fun | 149 => 9 | 222 => 18 | n => n, fun | 9 => 9 | 5 => 5 | 3 => 3 | 4 => 4 | n => n, fun | n => n⟩
theorem Ybad.lays149 : Go.Proofs.Lays.n149 Ybad.prog Ybad.lays149_ren := {
  mixed := by kernel_rfl
  f149 := Ybad.func9.trans (congrArg some (by kernel_rfl))
  f222 := Ybad.func18.trans (congrArg some (by kernel_rfl))
  t3 := Ybad.underlying3
  a3 := Ybad.isAgg3
  z3 := Ybad.sizeOf3
  v3 := Ybad.zeroValue3
  t4 := Ybad.underlying4
  a4 := Ybad.isAgg4
  z4 := Ybad.sizeOf4
  v4 := Ybad.zeroValue4
  t5 := Ybad.underlying5
  a5 := Ybad.isAgg5
  z5 := Ybad.sizeOf5
  v5 := Ybad.zeroValue5
  t9 := Ybad.underlying9
  a9 := Ybad.isAgg9
  z9 := Ybad.sizeOf9
  v9 := Ybad.zeroValue9 }
open Go.RowKit Go.Lib in
theorem Ybad.strings_LastIndexByte (s : ByteArray) (c : Int) (hs : s.size < 4611686018427387904) (w : World) :
    Calls Ybad.prog 9 #[.string s, .int .u8 c] w fun e w' => e = .returned (.int .i64 (Lib.lastIndexByte s c)) ∧ w' = w := Any.strings_LastIndexByte Ybad.lays149 s c hs w
/-- strconv.ParseUint(s, 10, 0) where s spells no uint64: an error that is not nil. -/
theorem Ybad.parse_bad (s : ByteArray) (hlim : s.size ≤ 281474976710656) (h : ∀ u, Lib.parseUintB 64 s.data.toList ≠ .ok u) (e0 e1 : Value) (w : World) (h0 : w.cell? ⟨2, 0, none⟩ = some e0) (h1 : w.cell? ⟨3, 0, none⟩ = some e1)
    (k0 : e0 = .nilIface ∨ ∃ te pe, e0 = .iface te pe) (k1 : e1 = .nilIface ∨ ∃ te pe, e1 = .iface te pe) :
    Calls Ybad.prog 10 #[.string s, .int .i64 10, .int .i64 0] w fun e w' => ∃ x N, e = .returned (.tuple #[.int .u64 x, .iface 62 (.pointer (some ⟨N, 0, none⟩))]) ∧ RowKit.Below w.heap.size w w' := by
  cases hp : Lib.parseUintB 64 s.data.toList
  · exact absurd hp (h _)
  · exact (Any.strconv_ParseUint_10_at0_syntax Ybad.laysPu14 s hlim hp e0 w h0 k0).mono fun e w' ⟨N, he, _, _, hb⟩ => ⟨_, N, he, hb⟩
  · exact (Any.strconv_ParseUint_10_at0_range Ybad.laysPu14 s hlim hp e1 w h1 k1).mono fun e w' ⟨N, he, _, _, hb⟩ => ⟨_, N, he, hb⟩
end Go.Proofs
