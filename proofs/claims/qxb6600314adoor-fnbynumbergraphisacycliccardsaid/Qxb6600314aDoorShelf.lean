/-
  Seat b6600314aD: the library contracts that the walks take, laid at this program by the kit's own tool in plain words. (seat 043)
-/
import Derived.Shelf.Strings.Trim
import Derived.Ground.Names2Prog
import Derived.Shelf.Slices.Clone
import Derived.Test.Qxb6600314aDoorProg
namespace Go.Proofs
open Go.Shelf
def Tryd.lays231_ren : Go.Shelf.Ren := ⟨fun | 231 => 30 | n => n, fun | 9 => 9 | 5 => 5 | 3 => 3 | 4 => 4 | n => n, fun | n => n⟩
theorem Tryd.lays231 : Go.Proofs.Lays.n231 Tryd.prog Tryd.lays231_ren := {
  mixed := by kernel_rfl
  f231 := Tryd.func30.trans (congrArg some (by kernel_rfl))
  t3 := Tryd.underlying3
  a3 := Tryd.isAgg3
  z3 := Tryd.sizeOf3
  v3 := Tryd.zeroValue3
  t4 := Tryd.underlying4
  a4 := Tryd.isAgg4
  z4 := Tryd.sizeOf4
  v4 := Tryd.zeroValue4
  t5 := Tryd.underlying5
  a5 := Tryd.isAgg5
  z5 := Tryd.sizeOf5
  v5 := Tryd.zeroValue5
  t9 := Tryd.underlying9
  a9 := Tryd.isAgg9
  z9 := Tryd.sizeOf9
  v9 := Tryd.zeroValue9 }
open Go.RowKit in
theorem Tryd.strings_trimLeftByte (s : ByteArray) (c : UInt8) (w : World) :
    Calls Tryd.prog 30 #[.string s, .int .u8 c.toNat] w fun e w' => e = .returned (.string ⟨(Lib.trimLeftB s.data.toList c).toArray⟩) ∧ w' = w := Any.strings_trimLeftByte Tryd.lays231 s c w
def Tryd.lays161_ren : Go.Shelf.Ren := ⟨fun | 161 => 29 | 231 => 30 | 227 => 31 | 233 => 32 | 235 => 33 | 228 => 34 | 197 => 35 | 151 => 36 | 260 => 37 | 152 => 38 | 137 => 39 | 119 => 40 | 224 => 41 | 225 => 42 | 217 => 43 | 266 => 44 | n => n, fun | 9 => 9 | 4 => 4 | 3 => 3 | 5 => 5 | 117 => 63 | 116 => 62 | 0 => 0 | 124 => 66 | 105 => 68 | 21 => 21 | 119 => 72 | 46 => 73 | 139 => 76 | 138 => 75 | n => n, fun | 3 => 0 | 4 => 1 | n => n⟩
theorem Tryd.lays161 : Go.Proofs.Lays.n161 Tryd.prog Tryd.lays161_ren := {
  mixed := by kernel_rfl
  f119 := Tryd.func40.trans (congrArg some (by kernel_rfl))
  f137 := Tryd.func39.trans (congrArg some (by kernel_rfl))
  f151 := Tryd.func36.trans (congrArg some (by kernel_rfl))
  f152 := Tryd.func38.trans (congrArg some (by kernel_rfl))
  f161 := Tryd.func29.trans (congrArg some (by kernel_rfl))
  f197 := Tryd.func35.trans (congrArg some (by kernel_rfl))
  f217 := Tryd.func43.trans (congrArg some (by kernel_rfl))
  f224 := Tryd.func41.trans (congrArg some (by kernel_rfl))
  f225 := Tryd.func42.trans (congrArg some (by kernel_rfl))
  f227 := Tryd.func31.trans (congrArg some (by kernel_rfl))
  f228 := Tryd.func34.trans (congrArg some (by kernel_rfl))
  f231 := Tryd.func30.trans (congrArg some (by kernel_rfl))
  f233 := Tryd.func32.trans (congrArg some (by kernel_rfl))
  f235 := Tryd.func33.trans (congrArg some (by kernel_rfl))
  f260 := Tryd.func37.trans (congrArg some (by kernel_rfl))
  f266 := Tryd.func44.trans (congrArg some (by kernel_rfl))
  t0 := Tryd.underlying0
  a0 := Tryd.isAgg0
  z0 := Tryd.sizeOf0
  v0 := Tryd.zeroValue0
  t3 := Tryd.underlying3
  a3 := Tryd.isAgg3
  z3 := Tryd.sizeOf3
  v3 := Tryd.zeroValue3
  t4 := Tryd.underlying4
  a4 := Tryd.isAgg4
  z4 := Tryd.sizeOf4
  v4 := Tryd.zeroValue4
  t5 := Tryd.underlying5
  a5 := Tryd.isAgg5
  z5 := Tryd.sizeOf5
  v5 := Tryd.zeroValue5
  t9 := Tryd.underlying9
  a9 := Tryd.isAgg9
  z9 := Tryd.sizeOf9
  v9 := Tryd.zeroValue9
  t21 := Tryd.underlying21
  a21 := Tryd.isAgg21
  z21 := Tryd.sizeOf21
  v21 := Tryd.zeroValue21
  t46 := Tryd.underlying73
  a46 := Tryd.isAgg73
  z46 := Tryd.sizeOf73
  v46 := Tryd.zeroValue73
  t105 := Tryd.underlying68
  a105 := Tryd.isAgg68
  z105 := Tryd.sizeOf68
  v105 := Tryd.zeroValue68
  t116 := Tryd.underlying62
  a116 := Tryd.isAgg62
  z116 := Tryd.sizeOf62
  t117 := Tryd.underlying63
  a117 := Tryd.isAgg63
  z117 := Tryd.sizeOf63
  v117 := Tryd.zeroValue63
  t119 := Tryd.underlying72
  a119 := Tryd.isAgg72
  z119 := Tryd.sizeOf72
  t124 := Tryd.underlying66
  a124 := Tryd.isAgg66
  z124 := Tryd.sizeOf66
  v124 := Tryd.zeroValue66
  t138 := Tryd.underlying75
  a138 := Tryd.isAgg75
  z138 := Tryd.sizeOf75
  v138 := Tryd.zeroValue75
  t139 := Tryd.underlying76
  a139 := Tryd.isAgg76
  z139 := Tryd.sizeOf76
  v139 := Tryd.zeroValue76
  g3 := by kernel_rfl
  g4 := by kernel_rfl }
open Go.RowKit in
theorem Tryd.strings_TrimLeft_one (s : ByteArray) (c : UInt8) (hc : c.toNat < 128) (w : World) :
    Calls Tryd.prog 29 #[.string s, .string ⟨#[c]⟩] w fun e w' => e = .returned (.string ⟨(Lib.trimLeftB s.data.toList c).toArray⟩) ∧ w' = w := Any.strings_TrimLeft_one Tryd.lays161 s c hc w
def Tryd.laysNm215_ren : Go.Shelf.Ren := ⟨fun | 15 => 25 | n => n, fun | 22 => 35 | 3 => 3 | 4 => 4 | n => n, fun | n => n⟩
theorem Tryd.laysNm215 : Go.Proofs.Lays2.n15 Tryd.prog Tryd.laysNm215_ren := {
  mixed := by kernel_rfl
  f15 := Tryd.func25.trans (congrArg some (by kernel_rfl))
  t3 := Tryd.underlying3
  a3 := Tryd.isAgg3
  z3 := Tryd.sizeOf3
  v3 := Tryd.zeroValue3
  t4 := Tryd.underlying4
  a4 := Tryd.isAgg4
  z4 := Tryd.sizeOf4
  v4 := Tryd.zeroValue4
  t22 := Tryd.underlying35
  a22 := Tryd.isAgg35
  z22 := Tryd.sizeOf35
  v22 := Tryd.zeroValue35
  i3 := by kernel_rfl }
open Go.RowKit Go.Lib in
theorem Tryd.slices_Clone_int (b off n c : Nat) (zs : List Int) (w : World) (hz : n ≤ zs.length) (hbig : n * 8 ≤ 140737488355328) (hc : ∀ j, j < zs.length → w.cell? ⟨b, off + j, none⟩ = some (.int .i64 (zs.getD j 0))) :
    Calls Tryd.prog 25 #[.slice (some ⟨b, off, none⟩) n c] w fun e w' => ∃ v', e = .returned v' ∧ w'.ownsRow w.heap.size 3 1 v' n ((zs.take n).map (Value.int .i64)) ∧ v' ≠ .slice none 0 0 ∧ Below w.heap.size w w' := Any.slices_Clone_int Tryd.laysNm215 b off n c zs w hz hbig hc
open Go.RowKit Go.Lib in
theorem Tryd.slices_Clone_int_nil (n c : Nat) (w : World) :
    Calls Tryd.prog 25 #[.slice none n c] w fun e w' => e = .returned (.slice none 0 0) ∧ w' = w := Any.slices_Clone_int_nil Tryd.laysNm215 n c w
open Go.RowKit Go.Lib in
theorem Tryd.slices_Clone_int_zero (a : Addr) (c : Nat) (w : World) :
    Calls Tryd.prog 25 #[.slice (some a) 0 c] w fun e w' => ∃ v', e = .returned v' ∧ w'.ownsRow w.heap.size 3 1 v' 0 [] ∧ v' ≠ .slice none 0 0 ∧ Below w.heap.size w w' := Any.slices_Clone_int_zero Tryd.laysNm215 a c w
end Go.Proofs
