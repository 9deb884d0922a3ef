/-
  The contracts of the kit's shelf that this seat uses, laid at its dump by the kit's own tool (lay-shelf, lay-plain), cut down to four theorems and five layings.
-/
import Derived.Shelf.Small.Wraps
import Derived.Shelf.Strconv.Itoa0
import Derived.Shelf.Strconv.Itoa1
import Derived.Shelf.LaysM
import Derived.Shelf.Strconv.Itoa2
import Derived.Shelf.Strconv.Itoa3
import Derived.Ground.MpProg
import Derived.Shelf.Pu.ParseUintPublic10
import Derived.Shelf.Pu.ErrVarParseUint
import Derived.Shelf.Strings.Prefix
import Derived.Test.YbulkbbuwDoorProg
namespace Go.Proofs
open Go.Shelf
def Ybad.lays103_ren : Go.Shelf.Ren := ⟨fun | 103 => 9 | 210 => 12 | 206 => 19 | n => n, fun | 9 => 9 | 4 => 4 | 24 => 30 | 3 => 3 | n => n, fun | n => n⟩
theorem Ybad.lays103 : Go.Proofs.Lays.n103 Ybad.prog Ybad.lays103_ren := {
  mixed := by kernel_rfl
  f103 := Ybad.func9.trans (congrArg some (by kernel_rfl))
  f206 := Ybad.func19.trans (congrArg some (by kernel_rfl))
  f210 := Ybad.func12.trans (congrArg some (by kernel_rfl))
  t3 := Ybad.underlying3
  a3 := Ybad.isAgg3
  z3 := Ybad.sizeOf3
  v3 := Ybad.zeroValue3
  t4 := Ybad.underlying4
  a4 := Ybad.isAgg4
  z4 := Ybad.sizeOf4
  v4 := Ybad.zeroValue4
  t9 := Ybad.underlying9
  a9 := Ybad.isAgg9
  z9 := Ybad.sizeOf9
  v9 := Ybad.zeroValue9
  t24 := Ybad.underlying30
  a24 := Ybad.isAgg30
  z24 := Ybad.sizeOf30
  v24 := Ybad.zeroValue30 }
open Go.RowKit in
theorem Ybad.strings_CutPrefix (s p : ByteArray) (w : World) :
    Calls Ybad.prog 9 #[.string s, .string p] w fun e w' => e = .returned (.tuple #[.string ⟨(Lib.trimPrefix s.data.toList p.data.toList).toArray⟩, .bool (Lib.hasPrefix s.data.toList p.data.toList)]) ∧ w' = w := Any.strings_CutPrefix Ybad.lays103 s p w
def Ybad.lays283_ren : Go.Shelf.Ren := ⟨fun | 283 => 15 | n => n, fun | 3 => 3 | 9 => 9 | 4 => 4 | n => n, fun | n => n⟩
theorem Ybad.lays283 : Go.Proofs.Lays.n283 Ybad.prog Ybad.lays283_ren := {
  mixed := by kernel_rfl
  f283 := Ybad.func15.trans (congrArg some (by kernel_rfl))
  t3 := Ybad.underlying3
  a3 := Ybad.isAgg3
  z3 := Ybad.sizeOf3
  v3 := Ybad.zeroValue3
  t4 := Ybad.underlying4
  a4 := Ybad.isAgg4
  z4 := Ybad.sizeOf4
  v4 := Ybad.zeroValue4
  t9 := Ybad.underlying9
  a9 := Ybad.isAgg9
  z9 := Ybad.sizeOf9
  v9 := Ybad.zeroValue9 }
open Go.Lib in
theorem Ybad.internal_strconv_small (i : Nat) (h : i < 100) (w : World) :
    Calls Ybad.prog 15 #[.int .i64 i] w fun e w' => e = .returned (.string ⟨(Lib.decDigits i).toArray⟩) ∧ w' = w := Any.internal_strconv_small Ybad.lays283 i h w
def Ybad.laysM284_ren : Go.Shelf.Ren := ⟨fun | 284 => 16 | 129 => 27 | 317 => 26 | 318 => 28 | n => n, fun | 53 => 22 | 3 => 3 | 212 => 52 | 0 => 0 | 4 => 4 | 46 => 45 | 5 => 5 | 9 => 9 | n => n, fun | 17 => 0 | n => n⟩
theorem Ybad.laysM284 : Go.Proofs.LaysM.n284 Ybad.prog Ybad.laysM284_ren := {
  mixed := by kernel_rfl
  f129 := Ybad.func27.trans (congrArg some (by kernel_rfl))
  f284 := Ybad.func16.trans (congrArg some (by kernel_rfl))
  f317 := Ybad.func26.trans (congrArg some (by kernel_rfl))
  f318 := Ybad.func28.trans (congrArg some (by kernel_rfl))
  t0 := Ybad.underlying0
  a0 := Ybad.isAgg0
  z0 := Ybad.sizeOf0
  v0 := Ybad.zeroValue0
  t3 := Ybad.underlying3
  a3 := Ybad.isAgg3
  z3 := Ybad.sizeOf3
  v3 := Ybad.zeroValue3
  t4 := Ybad.underlying4
  a4 := Ybad.isAgg4
  z4 := Ybad.sizeOf4
  v4 := Ybad.zeroValue4
  t5 := Ybad.underlying5
  a5 := Ybad.isAgg5
  z5 := Ybad.sizeOf5
  v5 := Ybad.zeroValue5
  t9 := Ybad.underlying9
  a9 := Ybad.isAgg9
  z9 := Ybad.sizeOf9
  v9 := Ybad.zeroValue9
  t46 := Ybad.underlying45
  a46 := Ybad.isAgg45
  z46 := Ybad.sizeOf45
  v46 := Ybad.zeroValue45
  t53 := Ybad.underlying22
  a53 := Ybad.isAgg22
  z53 := Ybad.sizeOf22
  v53 := Ybad.zeroValue22
  t212 := Ybad.underlying52
  a212 := Ybad.isAgg52
  z212 := Ybad.sizeOf52
  v212 := Ybad.zeroValue52
  g17 := by kernel_rfl
  i0 := by kernel_rfl
  i3 := by kernel_rfl
  i4 := by kernel_rfl
  i5 := by kernel_rfl
  i9 := by kernel_rfl
  i46 := by kernel_rfl
  i53 := by kernel_rfl
  i212 := by kernel_rfl
  m17 := by kernel_rfl }
def Ybad.lays285_ren : Go.Shelf.Ren := ⟨fun | 285 => 17 | n => n, fun | 37 => 27 | 53 => 22 | 3 => 3 | 4 => 4 | 51 => 53 | 9 => 9 | 5 => 5 | 0 => 0 | n => n, fun | n => n⟩
theorem Ybad.lays285 : Go.Proofs.Lays.n285 Ybad.prog Ybad.lays285_ren := {
  mixed := by kernel_rfl
  f285 := Ybad.func17.trans (congrArg some (by kernel_rfl))
  t0 := Ybad.underlying0
  a0 := Ybad.isAgg0
  z0 := Ybad.sizeOf0
  v0 := Ybad.zeroValue0
  t3 := Ybad.underlying3
  a3 := Ybad.isAgg3
  z3 := Ybad.sizeOf3
  v3 := Ybad.zeroValue3
  t4 := Ybad.underlying4
  a4 := Ybad.isAgg4
  z4 := Ybad.sizeOf4
  v4 := Ybad.zeroValue4
  t5 := Ybad.underlying5
  a5 := Ybad.isAgg5
  z5 := Ybad.sizeOf5
  v5 := Ybad.zeroValue5
  t9 := Ybad.underlying9
  a9 := Ybad.isAgg9
  z9 := Ybad.sizeOf9
  v9 := Ybad.zeroValue9
  t37 := Ybad.underlying27
  a37 := Ybad.isAgg27
  z37 := Ybad.sizeOf27
  v37 := Ybad.zeroValue27
  t51 := Ybad.underlying53
  a51 := Ybad.isAgg53
  z51 := Ybad.sizeOf53
  v51 := Ybad.zeroValue53
  t53 := Ybad.underlying22
  a53 := Ybad.isAgg22
  z53 := Ybad.sizeOf22
  v53 := Ybad.zeroValue22 }
open Go.RowKit Go.Sort Go.Lib in
theorem Ybad.internal_strconv_formatBase10 (blk off cap : Nat) (u : Nat) (d : Array UInt8) (w : World) (hH : Holds (fun (b : UInt8) => Value.int .u8 (b.toNat : Int)) w blk off d) (hu : u < 10 ^ d.size) (hu64 : u < 18446744073709551616) (hsz : d.size < 4611686018427387904) :
    Calls Ybad.prog 17 #[.slice (some ⟨blk, off, none⟩) d.size cap, .int .u64 u] w fun e w' =>
      e = .returned (.tuple #[]) ∧ ∃ (n v' : Nat) (dk : Array UInt8), w' = (putRow (fun (b : UInt8) => Value.int .u8 (b.toNat : Int)) w blk off dk).drewN n ∧ FmtInv d.size u 0 v' dk := Any.internal_strconv_formatBase10 Ybad.lays285 blk off cap u d w hH hu hu64 hsz
def Ybad.laysPu14_ren : Go.Shelf.Ren := ⟨fun | 14 => 10 | 16 => 13 | 17 => 14 | 19 => 20 | 20 => 21 | 21 => 22 | 22 => 23 | 23 => 24 | 24 => 25 | 25 => 31 | 27 => 33 | 26 => 32 | 28 => 36 | 29 => 37 | 30 => 15 | 31 => 16 | 32 => 17 | 33 => 18 | 35 => 27 | 34 => 26 | 36 => 28 | 37 => 29 | 38 => 30 | 39 => 34 | 40 => 35 | n => n, fun | 9 => 9 | 3 => 3 | 22 => 22 | 24 => 33 | 25 => 34 | 4 => 4 | 34 => 43 | 5 => 5 | 36 => 45 | 37 => 27 | 0 => 0 | 39 => 47 | 21 => 21 | 44 => 59 | 47 => 62 | 50 => 65 | 48 => 63 | 2 => 2 | 52 => 38 | 55 => 41 | 59 => 52 | 60 => 53 | 20 => 20 | 61 => 54 | 65 => 66 | 66 => 67 | 67 => 71 | n => n, fun | 0 => 1 | 1 => 2 | 2 => 0 | 3 => 3 | 4 => 4 | n => n⟩
theorem Ybad.laysPu14 : Go.Proofs.LaysPu.n14 Ybad.prog Ybad.laysPu14_ren := {
  mixed := by kernel_rfl
  f14 := Ybad.func10.trans (congrArg some (by kernel_rfl))
  f16 := Ybad.func13.trans (congrArg some (by kernel_rfl))
  f17 := Ybad.func14.trans (congrArg some (by kernel_rfl))
  f19 := Ybad.func20.trans (congrArg some (by kernel_rfl))
  f20 := Ybad.func21.trans (congrArg some (by kernel_rfl))
  f21 := Ybad.func22.trans (congrArg some (by kernel_rfl))
  f22 := Ybad.func23.trans (congrArg some (by kernel_rfl))
  f23 := Ybad.func24.trans (congrArg some (by kernel_rfl))
  f24 := Ybad.func25.trans (congrArg some (by kernel_rfl))
  f25 := Ybad.func31.trans (congrArg some (by kernel_rfl))
  f26 := Ybad.func32.trans (congrArg some (by kernel_rfl))
  f27 := Ybad.func33.trans (congrArg some (by kernel_rfl))
  f28 := Ybad.func36.trans (congrArg some (by kernel_rfl))
  f29 := Ybad.func37.trans (congrArg some (by kernel_rfl))
  f30 := Ybad.func15.trans (congrArg some (by kernel_rfl))
  f31 := Ybad.func16.trans (congrArg some (by kernel_rfl))
  f32 := Ybad.func17.trans (congrArg some (by kernel_rfl))
  f33 := Ybad.func18.trans (congrArg some (by kernel_rfl))
  f34 := Ybad.func26.trans (congrArg some (by kernel_rfl))
  f35 := Ybad.func27.trans (congrArg some (by kernel_rfl))
  f36 := Ybad.func28.trans (congrArg some (by kernel_rfl))
  f37 := Ybad.func29.trans (congrArg some (by kernel_rfl))
  f38 := Ybad.func30.trans (congrArg some (by kernel_rfl))
  f39 := Ybad.func34.trans (congrArg some (by kernel_rfl))
  f40 := Ybad.func35.trans (congrArg some (by kernel_rfl))
  t0 := Ybad.underlying0
  a0 := Ybad.isAgg0
  z0 := Ybad.sizeOf0
  v0 := Ybad.zeroValue0
  i0 := by kernel_rfl
  t2 := Ybad.underlying2
  a2 := Ybad.isAgg2
  z2 := Ybad.sizeOf2
  v2 := Ybad.zeroValue2
  i2 := by kernel_rfl
  t3 := Ybad.underlying3
  a3 := Ybad.isAgg3
  z3 := Ybad.sizeOf3
  v3 := Ybad.zeroValue3
  i3 := by kernel_rfl
  t4 := Ybad.underlying4
  a4 := Ybad.isAgg4
  z4 := Ybad.sizeOf4
  v4 := Ybad.zeroValue4
  i4 := by kernel_rfl
  t5 := Ybad.underlying5
  a5 := Ybad.isAgg5
  z5 := Ybad.sizeOf5
  v5 := Ybad.zeroValue5
  i5 := by kernel_rfl
  t9 := Ybad.underlying9
  a9 := Ybad.isAgg9
  z9 := Ybad.sizeOf9
  v9 := Ybad.zeroValue9
  i9 := by kernel_rfl
  t20 := Ybad.underlying20
  a20 := Ybad.isAgg20
  z20 := Ybad.sizeOf20
  v20 := Ybad.zeroValue20
  i20 := by kernel_rfl
  t21 := Ybad.underlying21
  a21 := Ybad.isAgg21
  z21 := Ybad.sizeOf21
  v21 := Ybad.zeroValue21
  i21 := by kernel_rfl
  t22 := Ybad.underlying22
  a22 := Ybad.isAgg22
  z22 := Ybad.sizeOf22
  v22 := Ybad.zeroValue22
  i22 := by kernel_rfl
  t24 := Ybad.underlying33
  a24 := Ybad.isAgg33
  z24 := Ybad.sizeOf33
  v24 := Ybad.zeroValue33
  i24 := by kernel_rfl
  t25 := Ybad.underlying34
  a25 := Ybad.isAgg34
  z25 := Ybad.sizeOf34
  v25 := Ybad.zeroValue34
  i25 := by kernel_rfl
  t34 := Ybad.underlying43
  a34 := Ybad.isAgg43
  z34 := Ybad.sizeOf43
  v34 := Ybad.zeroValue43
  i34 := by kernel_rfl
  c34 := by kernel_rfl
  t36 := Ybad.underlying45
  a36 := Ybad.isAgg45
  z36 := Ybad.sizeOf45
  v36 := Ybad.zeroValue45
  i36 := by kernel_rfl
  t37 := Ybad.underlying27
  a37 := Ybad.isAgg27
  z37 := Ybad.sizeOf27
  v37 := Ybad.zeroValue27
  i37 := by kernel_rfl
  t39 := Ybad.underlying47
  a39 := Ybad.isAgg47
  z39 := Ybad.sizeOf47
  v39 := Ybad.zeroValue47
  i39 := by kernel_rfl
  t44 := Ybad.underlying59
  a44 := Ybad.isAgg59
  z44 := Ybad.sizeOf59
  v44 := Ybad.zeroValue59
  i44 := by kernel_rfl
  t47 := Ybad.underlying62
  a47 := Ybad.isAgg62
  z47 := Ybad.sizeOf62
  v47 := Ybad.zeroValue62
  i47 := by kernel_rfl
  t48 := Ybad.underlying63
  a48 := Ybad.isAgg63
  z48 := Ybad.sizeOf63
  v48 := Ybad.zeroValue63
  i48 := by kernel_rfl
  t50 := Ybad.underlying65
  a50 := Ybad.isAgg65
  z50 := Ybad.sizeOf65
  v50 := Ybad.zeroValue65
  i50 := by kernel_rfl
  t52 := Ybad.underlying38
  a52 := Ybad.isAgg38
  z52 := Ybad.sizeOf38
  v52 := Ybad.zeroValue38
  i52 := by kernel_rfl
  t55 := Ybad.underlying41
  a55 := Ybad.isAgg41
  z55 := Ybad.sizeOf41
  v55 := Ybad.zeroValue41
  i55 := by kernel_rfl
  t59 := Ybad.underlying52
  a59 := Ybad.isAgg52
  z59 := Ybad.sizeOf52
  v59 := Ybad.zeroValue52
  i59 := by kernel_rfl
  t60 := Ybad.underlying53
  a60 := Ybad.isAgg53
  z60 := Ybad.sizeOf53
  v60 := Ybad.zeroValue53
  i60 := by kernel_rfl
  t61 := Ybad.underlying54
  a61 := Ybad.isAgg54
  z61 := Ybad.sizeOf54
  t65 := Ybad.underlying66
  a65 := Ybad.isAgg66
  z65 := Ybad.sizeOf66
  v65 := Ybad.zeroValue66
  i65 := by kernel_rfl
  t66 := Ybad.underlying67
  a66 := Ybad.isAgg67
  z66 := Ybad.sizeOf67
  v66 := Ybad.zeroValue67
  i66 := by kernel_rfl
  t67 := Ybad.underlying71
  a67 := Ybad.isAgg71
  z67 := Ybad.sizeOf71
  v67 := Ybad.zeroValue71
  i67 := by kernel_rfl
  g0 := by kernel_rfl
  m0 := by kernel_rfl
  g1 := by kernel_rfl
  m1 := by kernel_rfl
  g2 := by kernel_rfl
  m2 := by kernel_rfl
  g3 := by kernel_rfl
  m3 := by kernel_rfl
  g4 := by kernel_rfl
  m4 := by kernel_rfl }
open Go.RowKit in
theorem Ybad.strconv_ParseUint_10_at64_ok (s : ByteArray) (hmax : s.size ≤ 9223372036854775806) (u : Nat) (h : Lib.parseUintB 64 s.data.toList = .ok u) (w : World) :
    Calls Ybad.prog 10 #[.string s, .int .i64 10, .int .i64 64] w fun e w' => e = .returned (.tuple #[.int .u64 u, .nilIface]) ∧ (w' = w ∨ w' = Lib.bytesWorld w 5 s) := Any.strconv_ParseUint_10_at64_ok Ybad.laysPu14 s hmax u h w
end Go.Proofs
