/-
  LAID BY THE KIT's TOOLS AT THIS SEAT's TRANSLATION (the shelf's contracts in plain words), cut to what is used: strings.Repeat (7), internal strconv's small (26), numDigits (27), formatBase10 (28).
-/
import Derived.Shelf.Strings.Repeat
import Derived.Shelf.Strconv.Itoa3
import Derived.Shelf.LaysM
import Derived.Test.YbulkbcauDoorRows
import Derived.KernelRfl
namespace Go.Proofs
open Go.Shelf
def Ybad.lays105_ren : Go.Shelf.Ren := ⟨fun | 105 => 7 | 212 => 11 | 99 => 12 | 165 => 13 | 166 => 14 | 170 => 15 | 169 => 16 | 263 => 21 | 264 => 22 | 206 => 23 | 240 => 24 | 241 => 25 | 276 => 36 | 277 => 37 | n => n, fun | 9 => 9 | 3 => 3 | 4 => 4 | 20 => 20 | 0 => 0 | 46 => 34 | 109 => 35 | 5 => 5 | 72 => 41 | 76 => 43 | 51 => 48 | 146 => 49 | 53 => 25 | 148 => 51 | 70 => 38 | 37 => 39 | 75 => 31 | 127 => 53 | 164 => 65 | 80 => 46 | n => n, fun | n => n⟩
theorem Ybad.lays105 : Go.Proofs.Lays.n105 Ybad.prog Ybad.lays105_ren := {
  mixed := by kernel_rfl
  f99 := Ybad.func12.trans (congrArg some (by kernel_rfl))
  f105 := Ybad.func7.trans (congrArg some (by kernel_rfl))
  f165 := Ybad.func13.trans (congrArg some (by kernel_rfl))
  f166 := Ybad.func14.trans (congrArg some (by kernel_rfl))
  f169 := Ybad.func16.trans (congrArg some (by kernel_rfl))
  f170 := Ybad.func15.trans (congrArg some (by kernel_rfl))
  f206 := Ybad.func23.trans (congrArg some (by kernel_rfl))
  f212 := Ybad.func11.trans (congrArg some (by kernel_rfl))
  f240 := Ybad.func24.trans (congrArg some (by kernel_rfl))
  f241 := Ybad.func25.trans (congrArg some (by kernel_rfl))
  f263 := Ybad.func21.trans (congrArg some (by kernel_rfl))
  f264 := Ybad.func22.trans (congrArg some (by kernel_rfl))
  f276 := Ybad.func36.trans (congrArg some (by kernel_rfl))
  f277 := Ybad.func37.trans (congrArg some (by kernel_rfl))
  t0 := Ybad.underlying0
  a0 := Ybad.isAgg0
  z0 := Ybad.sizeOf0
  v0 := Ybad.zeroValue0
  t3 := Ybad.underlying3
  a3 := Ybad.isAgg3
  z3 := Ybad.sizeOf3
  v3 := Ybad.zeroValue3
  t4 := Ybad.underlying4
  a4 := Ybad.isAgg4
  z4 := Ybad.sizeOf4
  v4 := Ybad.zeroValue4
  t5 := Ybad.underlying5
  a5 := Ybad.isAgg5
  z5 := Ybad.sizeOf5
  v5 := Ybad.zeroValue5
  t9 := Ybad.underlying9
  a9 := Ybad.isAgg9
  z9 := Ybad.sizeOf9
  v9 := Ybad.zeroValue9
  t20 := Ybad.underlying20
  a20 := Ybad.isAgg20
  z20 := Ybad.sizeOf20
  v20 := Ybad.zeroValue20
  t37 := Ybad.underlying39
  a37 := Ybad.isAgg39
  z37 := Ybad.sizeOf39
  v37 := Ybad.zeroValue39
  t46 := Ybad.underlying34
  a46 := Ybad.isAgg34
  z46 := Ybad.sizeOf34
  v46 := Ybad.zeroValue34
  t51 := Ybad.underlying48
  a51 := Ybad.isAgg48
  z51 := Ybad.sizeOf48
  v51 := Ybad.zeroValue48
  t53 := Ybad.underlying25
  a53 := Ybad.isAgg25
  z53 := Ybad.sizeOf25
  v53 := Ybad.zeroValue25
  t70 := Ybad.underlying38
  a70 := Ybad.isAgg38
  z70 := Ybad.sizeOf38
  v70 := Ybad.zeroValue38
  t72 := Ybad.underlying41
  a72 := Ybad.isAgg41
  z72 := Ybad.sizeOf41
  v72 := Ybad.zeroValue41
  t75 := Ybad.underlying31
  a75 := Ybad.isAgg31
  z75 := Ybad.sizeOf31
  v75 := Ybad.zeroValue31
  t76 := Ybad.underlying43
  a76 := Ybad.isAgg43
  z76 := Ybad.sizeOf43
  v76 := Ybad.zeroValue43
  t109 := Ybad.underlying35
  a109 := Ybad.isAgg35
  z109 := Ybad.sizeOf35
  v109 := Ybad.zeroValue35
  t127 := Ybad.underlying53
  a127 := Ybad.isAgg53
  z127 := Ybad.sizeOf53
  v127 := Ybad.zeroValue53
  t146 := Ybad.underlying49
  a146 := Ybad.isAgg49
  z146 := Ybad.sizeOf49
  v146 := Ybad.zeroValue49
  t148 := Ybad.underlying51
  a148 := Ybad.isAgg51
  z148 := Ybad.sizeOf51
  v148 := Ybad.zeroValue51
  t164 := Ybad.underlying65
  a164 := Ybad.isAgg65
  z164 := Ybad.sizeOf65
  v164 := Ybad.zeroValue65 }
theorem Ybad.Builder_Extra_105 : Builder.Extra Ybad.prog Ybad.lays105_ren := {
  sizeBuilder := by kernel_rfl
  liesBuilder := by kernel_rfl
  t5 := Ybad.underlying5
  a5 := Ybad.isAgg5
  z5 := Ybad.sizeOf5
  v5 := Ybad.zeroValue5
  infoByte := by kernel_rfl
  cellsByte := by kernel_rfl
  sizeByte := by kernel_rfl
  neB5 := by decide }
open Go.RowKit Go.Lib in
theorem Ybad.strings_Repeat (s : ByteArray) (c : Nat) (w : World) (hc : c ≤ 9223372036854775807) (hlen : s.size * c ≤ 140737488355328) :
    Calls Ybad.prog 7 #[.string s, .int .i64 c] w fun e w' => e = .returned (.string ⟨(Lib.repeatL s.data.toList c).toArray⟩) ∧ Below w.heap.size w w' := Any.strings_Repeat Ybad.lays105 Ybad.Builder_Extra_105 s c w hc hlen
def Ybad.lays283_ren : Go.Shelf.Ren := ⟨fun | 283 => 26 | n => n, fun | 3 => 3 | 9 => 9 | 4 => 4 | n => n, fun | n => n⟩
theorem Ybad.lays283 : Go.Proofs.Lays.n283 Ybad.prog Ybad.lays283_ren := {
  mixed := by kernel_rfl
  f283 := Ybad.func26.trans (congrArg some (by kernel_rfl))
  t3 := Ybad.underlying3
  a3 := Ybad.isAgg3
  z3 := Ybad.sizeOf3
  v3 := Ybad.zeroValue3
  t4 := Ybad.underlying4
  a4 := Ybad.isAgg4
  z4 := Ybad.sizeOf4
  v4 := Ybad.zeroValue4
  t9 := Ybad.underlying9
  a9 := Ybad.isAgg9
  z9 := Ybad.sizeOf9
  v9 := Ybad.zeroValue9 }
open Go.Lib in
theorem Ybad.internal_strconv_small (i : Nat) (h : i < 100) (w : World) :
    Calls Ybad.prog 26 #[.int .i64 i] w fun e w' => e = .returned (.string ⟨(Lib.decDigits i).toArray⟩) ∧ w' = w := Any.internal_strconv_small Ybad.lays283 i h w
def Ybad.laysM284_ren : Go.Shelf.Ren := ⟨fun | 284 => 27 | 129 => 39 | 317 => 38 | 318 => 40 | n => n, fun | 53 => 25 | 3 => 3 | 212 => 70 | 0 => 0 | 4 => 4 | 46 => 34 | 5 => 5 | 9 => 9 | n => n, fun | 17 => 1 | n => n⟩
theorem Ybad.laysM284 : Go.Proofs.LaysM.n284 Ybad.prog Ybad.laysM284_ren := {
  mixed := by kernel_rfl
  f129 := Ybad.func39.trans (congrArg some (by kernel_rfl))
  f284 := Ybad.func27.trans (congrArg some (by kernel_rfl))
  f317 := Ybad.func38.trans (congrArg some (by kernel_rfl))
  f318 := Ybad.func40.trans (congrArg some (by kernel_rfl))
  t0 := Ybad.underlying0
  a0 := Ybad.isAgg0
  z0 := Ybad.sizeOf0
  v0 := Ybad.zeroValue0
  t3 := Ybad.underlying3
  a3 := Ybad.isAgg3
  z3 := Ybad.sizeOf3
  v3 := Ybad.zeroValue3
  t4 := Ybad.underlying4
  a4 := Ybad.isAgg4
  z4 := Ybad.sizeOf4
  v4 := Ybad.zeroValue4
  t5 := Ybad.underlying5
  a5 := Ybad.isAgg5
  z5 := Ybad.sizeOf5
  v5 := Ybad.zeroValue5
  t9 := Ybad.underlying9
  a9 := Ybad.isAgg9
  z9 := Ybad.sizeOf9
  v9 := Ybad.zeroValue9
  t46 := Ybad.underlying34
  a46 := Ybad.isAgg34
  z46 := Ybad.sizeOf34
  v46 := Ybad.zeroValue34
  t53 := Ybad.underlying25
  a53 := Ybad.isAgg25
  z53 := Ybad.sizeOf25
  v53 := Ybad.zeroValue25
  t212 := Ybad.underlying70
  a212 := Ybad.isAgg70
  z212 := Ybad.sizeOf70
  v212 := Ybad.zeroValue70
  g17 := by kernel_rfl
  i0 := by kernel_rfl
  i3 := by kernel_rfl
  i4 := by kernel_rfl
  i5 := by kernel_rfl
  i9 := by kernel_rfl
  i46 := by kernel_rfl
  i53 := by kernel_rfl
  i212 := by kernel_rfl
  m17 := by kernel_rfl }
def Ybad.lays285_ren : Go.Shelf.Ren := ⟨fun | 285 => 28 | n => n, fun | 37 => 39 | 53 => 25 | 3 => 3 | 4 => 4 | 51 => 48 | 9 => 9 | 5 => 5 | 0 => 0 | n => n, fun | n => n⟩
theorem Ybad.lays285 : Go.Proofs.Lays.n285 Ybad.prog Ybad.lays285_ren := {
  mixed := by kernel_rfl
  f285 := Ybad.func28.trans (congrArg some (by kernel_rfl))
  t0 := Ybad.underlying0
  a0 := Ybad.isAgg0
  z0 := Ybad.sizeOf0
  v0 := Ybad.zeroValue0
  t3 := Ybad.underlying3
  a3 := Ybad.isAgg3
  z3 := Ybad.sizeOf3
  v3 := Ybad.zeroValue3
  t4 := Ybad.underlying4
  a4 := Ybad.isAgg4
  z4 := Ybad.sizeOf4
  v4 := Ybad.zeroValue4
  t5 := Ybad.underlying5
  a5 := Ybad.isAgg5
  z5 := Ybad.sizeOf5
  v5 := Ybad.zeroValue5
  t9 := Ybad.underlying9
  a9 := Ybad.isAgg9
  z9 := Ybad.sizeOf9
  v9 := Ybad.zeroValue9
  t37 := Ybad.underlying39
  a37 := Ybad.isAgg39
  z37 := Ybad.sizeOf39
  v37 := Ybad.zeroValue39
  t51 := Ybad.underlying48
  a51 := Ybad.isAgg48
  z51 := Ybad.sizeOf48
  v51 := Ybad.zeroValue48
  t53 := Ybad.underlying25
  a53 := Ybad.isAgg25
  z53 := Ybad.sizeOf25
  v53 := Ybad.zeroValue25 }
open Go.RowKit Go.Sort Go.Lib in
theorem Ybad.internal_strconv_formatBase10 (blk off cap : Nat) (u : Nat) (d : Array UInt8) (w : World) (hH : Holds (fun (b : UInt8) => Value.int .u8 (b.toNat : Int)) w blk off d) (hu : u < 10 ^ d.size) (hu64 : u < 18446744073709551616) (hsz : d.size < 4611686018427387904) :
    Calls Ybad.prog 28 #[.slice (some ⟨blk, off, none⟩) d.size cap, .int .u64 u] w fun e w' =>
      e = .returned (.tuple #[]) ∧ ∃ (n v' : Nat) (dk : Array UInt8), w' = (putRow (fun (b : UInt8) => Value.int .u8 (b.toNat : Int)) w blk off dk).drewN n ∧ FmtInv d.size u 0 v' dk := Any.internal_strconv_formatBase10 Ybad.lays285 blk off cap u d w hH hu hu64 hsz
/-- The name of the table of powers of ten, as the given rows name it. -/
def Ybad.powName : String := YbulkbcauDoor.Rows.lawS2659BModelRow.named.getD 2 (String.ofList [])
theorem Ybad.numDigits_any (u : Nat) (h1 : 1 ≤ u) (h2 : u < 18446744073709551616) (w : World) (htab : Lib.TabIs Ybad.prog w Ybad.powName .u64 Lib.pow10Tab) :
    Calls Ybad.prog 27 #[.int .u64 u] w fun e w' => e = .returned (.int .i64 (Lib.nDigits u)) ∧ w' = w := Any.internal_strconv_numDigits Ybad.laysM284 u h1 h2 w htab
end Go.Proofs
