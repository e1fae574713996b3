/- Seat b6600715aD: library contracts, laid by the kit's tool for this program. -/
import Derived.Shelf.Small.Utf8
import Derived.Shelf.Utf8.RuneCount
import Derived.Shelf.Strconv.Itoa0
import Derived.Shelf.Strconv.Itoa1
import Derived.Shelf.LaysM
import Derived.Shelf.Strconv.Itoa2
import Derived.Shelf.Strconv.Itoa3
import Derived.Shelf.Strconv.ParseIntEmpty
import Derived.Shelf.Strconv.Clone
import Derived.Shelf.Strconv.SyntaxError
import Derived.Shelf.LaysC
import Derived.Shelf.Strconv.ToError
import Derived.Shelf.Strconv.Lower
import Derived.Shelf.Strconv.ParseUint10
import Derived.Shelf.Strconv.ParseUint10Empty
import Derived.Shelf.Strconv.ParseUint10Any
import Derived.Shelf.Strconv.ParseInt10
import Derived.Shelf.Strconv.RangeError
import Derived.Shelf.Strconv.ToErrorRange
import Derived.Shelf.Strconv.ParseUintEmpty
import Derived.Shelf.Strconv.ParseUint10b64
import Derived.Shelf.Strconv.ParseUint10b32
import Derived.Shelf.Strconv.ParseUint10b16
import Derived.Shelf.Strconv.ParseUint10b8
import Derived.Shelf.Strconv.ParseUint10At
import Derived.Shelf.Strconv.ParseInt10At64
import Derived.Shelf.Strconv.ParseInt10At32
import Derived.Shelf.Strconv.ParseInt10At16
import Derived.Shelf.Strconv.ParseInt10At8
import Derived.Shelf.Strconv.ParseInt10All
import Derived.Shelf.Strconv.ParseIntPublic10
import Derived.Shelf.Strconv.ErrVarParseInt
import Derived.Shelf.Strings.Search1
import Derived.Shelf.Strings.RuneCount
import Derived.Shelf.Bytes.SlIndexSmall
import Derived.Ground.SlbNamesProg
import Derived.Shelf.Bytes.SlCountOne
import Derived.Shelf.Bytes.SlIndexAt
import Derived.Shelf.Bytes.SlSearch0
import Derived.Shelf.Bytes.SlSearch1
import Derived.Shelf.Bytes.SlSearch2
import Derived.Shelf.Bytes.SlIndexWhole
import Derived.Shelf.Bytes.Small
import Derived.Shelf.Bytes.IndexByte
import Derived.Test.Qxb6600715aDoorProg
namespace Go.Proofs
open Go.Shelf
def Tryd.lays120_ren : Go.Shelf.Ren := ⟨fun | 120 => 58 | n => n, fun | 5 => 5 | 4 => 4 | n => n, fun | n => n⟩
theorem Tryd.lays120 : Go.Proofs.Lays.n120 Tryd.prog Tryd.lays120_ren := {
  mixed := by kernel_rfl
  f120 := Tryd.func58.trans (congrArg some (by kernel_rfl))
  t4 := Tryd.underlying4
  a4 := Tryd.isAgg4
  z4 := Tryd.sizeOf4
  v4 := Tryd.zeroValue4
  t5 := Tryd.underlying5
  a5 := Tryd.isAgg5
  z5 := Tryd.sizeOf5
  v5 := Tryd.zeroValue5 }
theorem Tryd.utf8_RuneStart (b : Int) (w : World) (h0 : 0 ≤ b) (h1 : b < 256) :
    Calls Tryd.prog 58 #[.int .u8 b] w fun e w' => e = .returned (.bool (Lib.runeStart b)) ∧ w' = w := Any.utf8_RuneStart Tryd.lays120 b w h0 h1
def Tryd.lays195_ren : Go.Shelf.Ren := ⟨fun | 195 => 46 | n => n, fun | 9 => 9 | 3 => 3 | 0 => 0 | 4 => 4 | n => n, fun | n => n⟩
theorem Tryd.lays195 : Go.Proofs.Lays.n195 Tryd.prog Tryd.lays195_ren := {
  mixed := by kernel_rfl
  f195 := Tryd.func46.trans (congrArg some (by kernel_rfl))
  t0 := Tryd.underlying0
  a0 := Tryd.isAgg0
  z0 := Tryd.sizeOf0
  v0 := Tryd.zeroValue0
  t3 := Tryd.underlying3
  a3 := Tryd.isAgg3
  z3 := Tryd.sizeOf3
  v3 := Tryd.zeroValue3
  t4 := Tryd.underlying4
  a4 := Tryd.isAgg4
  z4 := Tryd.sizeOf4
  v4 := Tryd.zeroValue4
  t9 := Tryd.underlying9
  a9 := Tryd.isAgg9
  z9 := Tryd.sizeOf9
  v9 := Tryd.zeroValue9 }
open Go.RowKit in
theorem Tryd.utf8_RuneCountInString (s : ByteArray) (w : World) (hs : s.size < 9223372036854775807) :
    Calls Tryd.prog 46 #[.string s] w fun e w' => e = .returned (.int .i64 (Lib.runeCount s)) ∧ ∃ pos, w' = w.iter s pos := Any.utf8_RuneCountInString Tryd.lays195 s w hs
def Tryd.lays129_ren : Go.Shelf.Ren := ⟨fun | 129 => 68 | n => n, fun | 53 => 39 | 3 => 3 | 4 => 4 | 46 => 64 | 5 => 5 | 9 => 9 | n => n, fun | n => n⟩
theorem Tryd.lays129 : Go.Proofs.Lays.n129 Tryd.prog Tryd.lays129_ren := {
  mixed := by kernel_rfl
  f129 := Tryd.func68.trans (congrArg some (by kernel_rfl))
  t3 := Tryd.underlying3
  a3 := Tryd.isAgg3
  z3 := Tryd.sizeOf3
  v3 := Tryd.zeroValue3
  t4 := Tryd.underlying4
  a4 := Tryd.isAgg4
  z4 := Tryd.sizeOf4
  v4 := Tryd.zeroValue4
  t5 := Tryd.underlying5
  a5 := Tryd.isAgg5
  z5 := Tryd.sizeOf5
  v5 := Tryd.zeroValue5
  t9 := Tryd.underlying9
  a9 := Tryd.isAgg9
  z9 := Tryd.sizeOf9
  v9 := Tryd.zeroValue9
  t46 := Tryd.underlying64
  a46 := Tryd.isAgg64
  z46 := Tryd.sizeOf64
  v46 := Tryd.zeroValue64
  t53 := Tryd.underlying39
  a53 := Tryd.isAgg39
  z53 := Tryd.sizeOf39
  v53 := Tryd.zeroValue39 }
theorem Tryd.bits_Len64 (x : Int) (w : World) (h0 : 0 ≤ x) (h1 : x ≤ 18446744073709551615) :
    Calls Tryd.prog 68 #[.int .u64 x] w fun e w' => e = .returned (.int .i64 (Lib.bitLen x.toNat)) ∧ w' = w := Any.bits_Len64 Tryd.lays129 x w h0 h1
def Tryd.lays317_ren : Go.Shelf.Ren := ⟨fun | 317 => 67 | n => n, fun | 3 => 3 | 46 => 64 | n => n, fun | n => n⟩
theorem Tryd.lays317 : Go.Proofs.Lays.n317 Tryd.prog Tryd.lays317_ren := {
  mixed := by kernel_rfl
  f317 := Tryd.func67.trans (congrArg some (by kernel_rfl))
  t3 := Tryd.underlying3
  a3 := Tryd.isAgg3
  z3 := Tryd.sizeOf3
  v3 := Tryd.zeroValue3
  t46 := Tryd.underlying64
  a46 := Tryd.isAgg64
  z46 := Tryd.sizeOf64
  v46 := Tryd.zeroValue64 }
open Go.Lib in
theorem Tryd.internal_strconv_log10Pow2 (x : Nat) (h : x ≤ 64) (w : World) :
    Calls Tryd.prog 67 #[.int .i64 x] w fun e w' => e = .returned (.int .i64 (Lib.l10 x)) ∧ w' = w := Any.internal_strconv_log10Pow2 Tryd.lays317 x h w
def Tryd.lays318_ren : Go.Shelf.Ren := ⟨fun | 318 => 69 | n => n, fun | 3 => 3 | 4 => 4 | n => n, fun | n => n⟩
theorem Tryd.lays318 : Go.Proofs.Lays.n318 Tryd.prog Tryd.lays318_ren := {
  mixed := by kernel_rfl
  f318 := Tryd.func69.trans (congrArg some (by kernel_rfl))
  t3 := Tryd.underlying3
  a3 := Tryd.isAgg3
  z3 := Tryd.sizeOf3
  v3 := Tryd.zeroValue3
  t4 := Tryd.underlying4
  a4 := Tryd.isAgg4
  z4 := Tryd.sizeOf4
  v4 := Tryd.zeroValue4 }
open Go.Lib in
theorem Tryd.internal_strconv_bool2_int (b : Bool) (w : World) :
    Calls Tryd.prog 69 #[.bool b] w fun e w' => e = .returned (.int .i64 (if b then 1 else 0)) ∧ w' = w := Any.internal_strconv_bool2_int Tryd.lays318 b w
def Tryd.lays283_ren : Go.Shelf.Ren := ⟨fun | 283 => 63 | n => n, fun | 3 => 3 | 9 => 9 | 4 => 4 | n => n, fun | n => n⟩
theorem Tryd.lays283 : Go.Proofs.Lays.n283 Tryd.prog Tryd.lays283_ren := {
  mixed := by kernel_rfl
  f283 := Tryd.func63.trans (congrArg some (by kernel_rfl))
  t3 := Tryd.underlying3
  a3 := Tryd.isAgg3
  z3 := Tryd.sizeOf3
  v3 := Tryd.zeroValue3
  t4 := Tryd.underlying4
  a4 := Tryd.isAgg4
  z4 := Tryd.sizeOf4
  v4 := Tryd.zeroValue4
  t9 := Tryd.underlying9
  a9 := Tryd.isAgg9
  z9 := Tryd.sizeOf9
  v9 := Tryd.zeroValue9 }
open Go.Lib in
theorem Tryd.internal_strconv_small (i : Nat) (h : i < 100) (w : World) :
    Calls Tryd.prog 63 #[.int .i64 i] w fun e w' => e = .returned (.string ⟨(Lib.decDigits i).toArray⟩) ∧ w' = w := Any.internal_strconv_small Tryd.lays283 i h w
def Tryd.laysM284_ren : Go.Shelf.Ren := ⟨fun | 284 => 64 | 129 => 68 | 317 => 67 | 318 => 69 | n => n, fun | 53 => 39 | 3 => 3 | 212 => 95 | 0 => 0 | 4 => 4 | 46 => 64 | 5 => 5 | 9 => 9 | n => n, fun | 17 => 5 | n => n⟩
theorem Tryd.laysM284 : Go.Proofs.LaysM.n284 Tryd.prog Tryd.laysM284_ren := {
  mixed := by kernel_rfl
  f129 := Tryd.func68.trans (congrArg some (by kernel_rfl))
  f284 := Tryd.func64.trans (congrArg some (by kernel_rfl))
  f317 := Tryd.func67.trans (congrArg some (by kernel_rfl))
  f318 := Tryd.func69.trans (congrArg some (by kernel_rfl))
  t0 := Tryd.underlying0
  a0 := Tryd.isAgg0
  z0 := Tryd.sizeOf0
  v0 := Tryd.zeroValue0
  t3 := Tryd.underlying3
  a3 := Tryd.isAgg3
  z3 := Tryd.sizeOf3
  v3 := Tryd.zeroValue3
  t4 := Tryd.underlying4
  a4 := Tryd.isAgg4
  z4 := Tryd.sizeOf4
  v4 := Tryd.zeroValue4
  t5 := Tryd.underlying5
  a5 := Tryd.isAgg5
  z5 := Tryd.sizeOf5
  v5 := Tryd.zeroValue5
  t9 := Tryd.underlying9
  a9 := Tryd.isAgg9
  z9 := Tryd.sizeOf9
  v9 := Tryd.zeroValue9
  t46 := Tryd.underlying64
  a46 := Tryd.isAgg64
  z46 := Tryd.sizeOf64
  v46 := Tryd.zeroValue64
  t53 := Tryd.underlying39
  a53 := Tryd.isAgg39
  z53 := Tryd.sizeOf39
  v53 := Tryd.zeroValue39
  t212 := Tryd.underlying95
  a212 := Tryd.isAgg95
  z212 := Tryd.sizeOf95
  v212 := Tryd.zeroValue95
  g17 := by kernel_rfl
  i0 := by kernel_rfl
  i3 := by kernel_rfl
  i4 := by kernel_rfl
  i5 := by kernel_rfl
  i9 := by kernel_rfl
  i46 := by kernel_rfl
  i53 := by kernel_rfl
  i212 := by kernel_rfl
  m17 := by kernel_rfl }
open Go.Lib in
theorem Tryd.internal_strconv_numDigits (u : Nat) (h1 : 1 ≤ u) (h2 : u < 18446744073709551616) (w : World) (htab : Lib.TabIs Tryd.prog w "internal/strconv.uint64pow10" .u64 Lib.pow10Tab) :
    Calls Tryd.prog 64 #[.int .u64 u] w fun e w' => e = .returned (.int .i64 (Lib.nDigits u)) ∧ w' = w := Any.internal_strconv_numDigits Tryd.laysM284 u h1 h2 w htab
def Tryd.lays285_ren : Go.Shelf.Ren := ⟨fun | 285 => 65 | n => n, fun | 37 => 22 | 53 => 39 | 3 => 3 | 4 => 4 | 51 => 78 | 9 => 9 | 5 => 5 | 0 => 0 | n => n, fun | n => n⟩
theorem Tryd.lays285 : Go.Proofs.Lays.n285 Tryd.prog Tryd.lays285_ren := {
  mixed := by kernel_rfl
  f285 := Tryd.func65.trans (congrArg some (by kernel_rfl))
  t0 := Tryd.underlying0
  a0 := Tryd.isAgg0
  z0 := Tryd.sizeOf0
  v0 := Tryd.zeroValue0
  t3 := Tryd.underlying3
  a3 := Tryd.isAgg3
  z3 := Tryd.sizeOf3
  v3 := Tryd.zeroValue3
  t4 := Tryd.underlying4
  a4 := Tryd.isAgg4
  z4 := Tryd.sizeOf4
  v4 := Tryd.zeroValue4
  t5 := Tryd.underlying5
  a5 := Tryd.isAgg5
  z5 := Tryd.sizeOf5
  v5 := Tryd.zeroValue5
  t9 := Tryd.underlying9
  a9 := Tryd.isAgg9
  z9 := Tryd.sizeOf9
  v9 := Tryd.zeroValue9
  t37 := Tryd.underlying22
  a37 := Tryd.isAgg22
  z37 := Tryd.sizeOf22
  v37 := Tryd.zeroValue22
  t51 := Tryd.underlying78
  a51 := Tryd.isAgg78
  z51 := Tryd.sizeOf78
  v51 := Tryd.zeroValue78
  t53 := Tryd.underlying39
  a53 := Tryd.isAgg39
  z53 := Tryd.sizeOf39
  v53 := Tryd.zeroValue39 }
open Go.RowKit Go.Sort Go.Lib in
theorem Tryd.internal_strconv_formatBase10 (blk off cap : Nat) (u : Nat) (d : Array UInt8) (w : World) (hH : Holds (fun (b : UInt8) => Value.int .u8 (b.toNat : Int)) w blk off d) (hu : u < 10 ^ d.size) (hu64 : u < 18446744073709551616) (hsz : d.size < 4611686018427387904) :
    Calls Tryd.prog 65 #[.slice (some ⟨blk, off, none⟩) d.size cap, .int .u64 u] w fun e w' =>
      e = .returned (.tuple #[]) ∧ ∃ (n v' : Nat) (dk : Array UInt8), w' = (putRow (fun (b : UInt8) => Value.int .u8 (b.toNat : Int)) w blk off dk).drewN n ∧ FmtInv d.size u 0 v' dk := Any.internal_strconv_formatBase10 Tryd.lays285 blk off cap u d w hH hu hu64 hsz
def Tryd.laysM246_ren : Go.Shelf.Ren := ⟨fun | 246 => 62 | 283 => 63 | 284 => 64 | 285 => 65 | 286 => 66 | 129 => 68 | 317 => 67 | 318 => 69 | 319 => 70 | 320 => 71 | 337 => 72 | 338 => 73 | n => n, fun | 2 => 2 | 3 => 3 | 9 => 9 | 4 => 4 | 171 => 40 | 0 => 0 | 53 => 39 | 37 => 22 | 5 => 5 | 173 => 92 | 212 => 95 | 51 => 78 | 20 => 20 | 213 => 96 | 46 => 64 | 232 => 100 | 233 => 101 | n => n, fun | 17 => 5 | 18 => 6 | 19 => 7 | n => n⟩
theorem Tryd.laysM246 : Go.Proofs.LaysM.n246 Tryd.prog Tryd.laysM246_ren := {
  mixed := by kernel_rfl
  f129 := Tryd.func68.trans (congrArg some (by kernel_rfl))
  f246 := Tryd.func62.trans (congrArg some (by kernel_rfl))
  f283 := Tryd.func63.trans (congrArg some (by kernel_rfl))
  f284 := Tryd.func64.trans (congrArg some (by kernel_rfl))
  f285 := Tryd.func65.trans (congrArg some (by kernel_rfl))
  f286 := Tryd.func66.trans (congrArg some (by kernel_rfl))
  f317 := Tryd.func67.trans (congrArg some (by kernel_rfl))
  f318 := Tryd.func69.trans (congrArg some (by kernel_rfl))
  f319 := Tryd.func70.trans (congrArg some (by kernel_rfl))
  f320 := Tryd.func71.trans (congrArg some (by kernel_rfl))
  f337 := Tryd.func72.trans (congrArg some (by kernel_rfl))
  f338 := Tryd.func73.trans (congrArg some (by kernel_rfl))
  t0 := Tryd.underlying0
  a0 := Tryd.isAgg0
  z0 := Tryd.sizeOf0
  v0 := Tryd.zeroValue0
  t2 := Tryd.underlying2
  a2 := Tryd.isAgg2
  z2 := Tryd.sizeOf2
  v2 := Tryd.zeroValue2
  t3 := Tryd.underlying3
  a3 := Tryd.isAgg3
  z3 := Tryd.sizeOf3
  v3 := Tryd.zeroValue3
  t4 := Tryd.underlying4
  a4 := Tryd.isAgg4
  z4 := Tryd.sizeOf4
  v4 := Tryd.zeroValue4
  t5 := Tryd.underlying5
  a5 := Tryd.isAgg5
  z5 := Tryd.sizeOf5
  v5 := Tryd.zeroValue5
  t9 := Tryd.underlying9
  a9 := Tryd.isAgg9
  z9 := Tryd.sizeOf9
  v9 := Tryd.zeroValue9
  t20 := Tryd.underlying20
  a20 := Tryd.isAgg20
  z20 := Tryd.sizeOf20
  v20 := Tryd.zeroValue20
  t37 := Tryd.underlying22
  a37 := Tryd.isAgg22
  z37 := Tryd.sizeOf22
  v37 := Tryd.zeroValue22
  t46 := Tryd.underlying64
  a46 := Tryd.isAgg64
  z46 := Tryd.sizeOf64
  v46 := Tryd.zeroValue64
  t51 := Tryd.underlying78
  a51 := Tryd.isAgg78
  z51 := Tryd.sizeOf78
  v51 := Tryd.zeroValue78
  t53 := Tryd.underlying39
  a53 := Tryd.isAgg39
  z53 := Tryd.sizeOf39
  v53 := Tryd.zeroValue39
  t171 := Tryd.underlying40
  a171 := Tryd.isAgg40
  z171 := Tryd.sizeOf40
  v171 := Tryd.zeroValue40
  t173 := Tryd.underlying92
  a173 := Tryd.isAgg92
  z173 := Tryd.sizeOf92
  v173 := Tryd.zeroValue92
  t212 := Tryd.underlying95
  a212 := Tryd.isAgg95
  z212 := Tryd.sizeOf95
  v212 := Tryd.zeroValue95
  t213 := Tryd.underlying96
  a213 := Tryd.isAgg96
  z213 := Tryd.sizeOf96
  t232 := Tryd.underlying100
  a232 := Tryd.isAgg100
  z232 := Tryd.sizeOf100
  v232 := Tryd.zeroValue100
  t233 := Tryd.underlying101
  a233 := Tryd.isAgg101
  z233 := Tryd.sizeOf101
  v233 := Tryd.zeroValue101
  g17 := by kernel_rfl
  g18 := by kernel_rfl
  g19 := by kernel_rfl
  i0 := by kernel_rfl
  i2 := by kernel_rfl
  i3 := by kernel_rfl
  i4 := by kernel_rfl
  i5 := by kernel_rfl
  i9 := by kernel_rfl
  i20 := by kernel_rfl
  i37 := by kernel_rfl
  i46 := by kernel_rfl
  i51 := by kernel_rfl
  i53 := by kernel_rfl
  i171 := by kernel_rfl
  i173 := by kernel_rfl
  i212 := by kernel_rfl
  i232 := by kernel_rfl
  i233 := by kernel_rfl
  m17 := by kernel_rfl
  m18 := by kernel_rfl
  m19 := by kernel_rfl }
open Go.RowKit Go.Sort Go.Lib in
theorem Tryd.internal_strconv_FormatInt_10 (n : Int) (h0 : -9223372036854775808 ≤ n) (h1 : n ≤ 9223372036854775807) (w : World) (htab : Lib.TabIs Tryd.prog w "internal/strconv.uint64pow10" .u64 Lib.pow10Tab) :
    Calls Tryd.prog 62 #[.int .i64 n, .int .i64 10] w fun e w' => e = .returned (.string ⟨(Lib.itoa n).toArray⟩) ∧ ∃ k os, w' = grow (w.drewN k) os := Any.internal_strconv_FormatInt_10 Tryd.laysM246 n h0 h1 w htab
def Tryd.lays246_ren : Go.Shelf.Ren := ⟨fun | 246 => 62 | 283 => 63 | 284 => 64 | 285 => 65 | 286 => 66 | 129 => 68 | 317 => 67 | 318 => 69 | 319 => 70 | 320 => 71 | 337 => 72 | 338 => 73 | n => n, fun | 2 => 2 | 3 => 3 | 9 => 9 | 4 => 4 | 171 => 40 | 0 => 0 | 53 => 39 | 37 => 22 | 5 => 5 | 173 => 92 | 212 => 95 | 51 => 78 | 20 => 20 | 213 => 96 | 46 => 64 | 232 => 100 | 233 => 101 | n => n, fun | 17 => 5 | 18 => 6 | 19 => 7 | n => n⟩
theorem Tryd.lays246 : Go.Proofs.Lays.n246 Tryd.prog Tryd.lays246_ren := {
  mixed := by kernel_rfl
  f129 := Tryd.func68.trans (congrArg some (by kernel_rfl))
  f246 := Tryd.func62.trans (congrArg some (by kernel_rfl))
  f283 := Tryd.func63.trans (congrArg some (by kernel_rfl))
  f284 := Tryd.func64.trans (congrArg some (by kernel_rfl))
  f285 := Tryd.func65.trans (congrArg some (by kernel_rfl))
  f286 := Tryd.func66.trans (congrArg some (by kernel_rfl))
  f317 := Tryd.func67.trans (congrArg some (by kernel_rfl))
  f318 := Tryd.func69.trans (congrArg some (by kernel_rfl))
  f319 := Tryd.func70.trans (congrArg some (by kernel_rfl))
  f320 := Tryd.func71.trans (congrArg some (by kernel_rfl))
  f337 := Tryd.func72.trans (congrArg some (by kernel_rfl))
  f338 := Tryd.func73.trans (congrArg some (by kernel_rfl))
  t0 := Tryd.underlying0
  a0 := Tryd.isAgg0
  z0 := Tryd.sizeOf0
  v0 := Tryd.zeroValue0
  t2 := Tryd.underlying2
  a2 := Tryd.isAgg2
  z2 := Tryd.sizeOf2
  v2 := Tryd.zeroValue2
  t3 := Tryd.underlying3
  a3 := Tryd.isAgg3
  z3 := Tryd.sizeOf3
  v3 := Tryd.zeroValue3
  t4 := Tryd.underlying4
  a4 := Tryd.isAgg4
  z4 := Tryd.sizeOf4
  v4 := Tryd.zeroValue4
  t5 := Tryd.underlying5
  a5 := Tryd.isAgg5
  z5 := Tryd.sizeOf5
  v5 := Tryd.zeroValue5
  t9 := Tryd.underlying9
  a9 := Tryd.isAgg9
  z9 := Tryd.sizeOf9
  v9 := Tryd.zeroValue9
  t20 := Tryd.underlying20
  a20 := Tryd.isAgg20
  z20 := Tryd.sizeOf20
  v20 := Tryd.zeroValue20
  t37 := Tryd.underlying22
  a37 := Tryd.isAgg22
  z37 := Tryd.sizeOf22
  v37 := Tryd.zeroValue22
  t46 := Tryd.underlying64
  a46 := Tryd.isAgg64
  z46 := Tryd.sizeOf64
  v46 := Tryd.zeroValue64
  t51 := Tryd.underlying78
  a51 := Tryd.isAgg78
  z51 := Tryd.sizeOf78
  v51 := Tryd.zeroValue78
  t53 := Tryd.underlying39
  a53 := Tryd.isAgg39
  z53 := Tryd.sizeOf39
  v53 := Tryd.zeroValue39
  t171 := Tryd.underlying40
  a171 := Tryd.isAgg40
  z171 := Tryd.sizeOf40
  v171 := Tryd.zeroValue40
  t173 := Tryd.underlying92
  a173 := Tryd.isAgg92
  z173 := Tryd.sizeOf92
  v173 := Tryd.zeroValue92
  t212 := Tryd.underlying95
  a212 := Tryd.isAgg95
  z212 := Tryd.sizeOf95
  v212 := Tryd.zeroValue95
  t213 := Tryd.underlying96
  a213 := Tryd.isAgg96
  z213 := Tryd.sizeOf96
  t232 := Tryd.underlying100
  a232 := Tryd.isAgg100
  z232 := Tryd.sizeOf100
  v232 := Tryd.zeroValue100
  t233 := Tryd.underlying101
  a233 := Tryd.isAgg101
  z233 := Tryd.sizeOf101
  v233 := Tryd.zeroValue101
  g17 := by kernel_rfl
  g18 := by kernel_rfl
  g19 := by kernel_rfl }
open Go.RowKit Go.Sort Go.Lib in
theorem Tryd.internal_strconv_FormatInt_10_small (i : Nat) (hi : i < 100) (w : World) :
    Calls Tryd.prog 62 #[.int .i64 i, .int .i64 10] w fun e w' => e = .returned (.string ⟨(Lib.decDigits i).toArray⟩) ∧ w' = w := Any.internal_strconv_FormatInt_10_small Tryd.lays246 i hi w
def Tryd.laysM243_ren : Go.Shelf.Ren := ⟨fun | 243 => 61 | 246 => 62 | 283 => 63 | 284 => 64 | 285 => 65 | 286 => 66 | 129 => 68 | 317 => 67 | 318 => 69 | 319 => 70 | 320 => 71 | 337 => 72 | 338 => 73 | n => n, fun | 3 => 3 | 9 => 9 | 2 => 2 | 4 => 4 | 171 => 40 | 0 => 0 | 53 => 39 | 37 => 22 | 5 => 5 | 173 => 92 | 212 => 95 | 51 => 78 | 20 => 20 | 213 => 96 | 46 => 64 | 232 => 100 | 233 => 101 | n => n, fun | 17 => 5 | 18 => 6 | 19 => 7 | n => n⟩
theorem Tryd.laysM243 : Go.Proofs.LaysM.n243 Tryd.prog Tryd.laysM243_ren := {
  mixed := by kernel_rfl
  f129 := Tryd.func68.trans (congrArg some (by kernel_rfl))
  f243 := Tryd.func61.trans (congrArg some (by kernel_rfl))
  f246 := Tryd.func62.trans (congrArg some (by kernel_rfl))
  f283 := Tryd.func63.trans (congrArg some (by kernel_rfl))
  f284 := Tryd.func64.trans (congrArg some (by kernel_rfl))
  f285 := Tryd.func65.trans (congrArg some (by kernel_rfl))
  f286 := Tryd.func66.trans (congrArg some (by kernel_rfl))
  f317 := Tryd.func67.trans (congrArg some (by kernel_rfl))
  f318 := Tryd.func69.trans (congrArg some (by kernel_rfl))
  f319 := Tryd.func70.trans (congrArg some (by kernel_rfl))
  f320 := Tryd.func71.trans (congrArg some (by kernel_rfl))
  f337 := Tryd.func72.trans (congrArg some (by kernel_rfl))
  f338 := Tryd.func73.trans (congrArg some (by kernel_rfl))
  t0 := Tryd.underlying0
  a0 := Tryd.isAgg0
  z0 := Tryd.sizeOf0
  v0 := Tryd.zeroValue0
  t2 := Tryd.underlying2
  a2 := Tryd.isAgg2
  z2 := Tryd.sizeOf2
  v2 := Tryd.zeroValue2
  t3 := Tryd.underlying3
  a3 := Tryd.isAgg3
  z3 := Tryd.sizeOf3
  v3 := Tryd.zeroValue3
  t4 := Tryd.underlying4
  a4 := Tryd.isAgg4
  z4 := Tryd.sizeOf4
  v4 := Tryd.zeroValue4
  t5 := Tryd.underlying5
  a5 := Tryd.isAgg5
  z5 := Tryd.sizeOf5
  v5 := Tryd.zeroValue5
  t9 := Tryd.underlying9
  a9 := Tryd.isAgg9
  z9 := Tryd.sizeOf9
  v9 := Tryd.zeroValue9
  t20 := Tryd.underlying20
  a20 := Tryd.isAgg20
  z20 := Tryd.sizeOf20
  v20 := Tryd.zeroValue20
  t37 := Tryd.underlying22
  a37 := Tryd.isAgg22
  z37 := Tryd.sizeOf22
  v37 := Tryd.zeroValue22
  t46 := Tryd.underlying64
  a46 := Tryd.isAgg64
  z46 := Tryd.sizeOf64
  v46 := Tryd.zeroValue64
  t51 := Tryd.underlying78
  a51 := Tryd.isAgg78
  z51 := Tryd.sizeOf78
  v51 := Tryd.zeroValue78
  t53 := Tryd.underlying39
  a53 := Tryd.isAgg39
  z53 := Tryd.sizeOf39
  v53 := Tryd.zeroValue39
  t171 := Tryd.underlying40
  a171 := Tryd.isAgg40
  z171 := Tryd.sizeOf40
  v171 := Tryd.zeroValue40
  t173 := Tryd.underlying92
  a173 := Tryd.isAgg92
  z173 := Tryd.sizeOf92
  v173 := Tryd.zeroValue92
  t212 := Tryd.underlying95
  a212 := Tryd.isAgg95
  z212 := Tryd.sizeOf95
  v212 := Tryd.zeroValue95
  t213 := Tryd.underlying96
  a213 := Tryd.isAgg96
  z213 := Tryd.sizeOf96
  t232 := Tryd.underlying100
  a232 := Tryd.isAgg100
  z232 := Tryd.sizeOf100
  v232 := Tryd.zeroValue100
  t233 := Tryd.underlying101
  a233 := Tryd.isAgg101
  z233 := Tryd.sizeOf101
  v233 := Tryd.zeroValue101
  g17 := by kernel_rfl
  g18 := by kernel_rfl
  g19 := by kernel_rfl
  i0 := by kernel_rfl
  i2 := by kernel_rfl
  i3 := by kernel_rfl
  i4 := by kernel_rfl
  i5 := by kernel_rfl
  i9 := by kernel_rfl
  i20 := by kernel_rfl
  i37 := by kernel_rfl
  i46 := by kernel_rfl
  i51 := by kernel_rfl
  i53 := by kernel_rfl
  i171 := by kernel_rfl
  i173 := by kernel_rfl
  i212 := by kernel_rfl
  i232 := by kernel_rfl
  i233 := by kernel_rfl
  m17 := by kernel_rfl
  m18 := by kernel_rfl
  m19 := by kernel_rfl }
open Go.RowKit Go.Sort Go.Lib in
theorem Tryd.internal_strconv_Itoa (n : Int) (h0 : -9223372036854775808 ≤ n) (h1 : n ≤ 9223372036854775807) (w : World) (htab : Lib.TabIs Tryd.prog w "internal/strconv.uint64pow10" .u64 Lib.pow10Tab) :
    Calls Tryd.prog 61 #[.int .i64 n] w fun e w' => e = .returned (.string ⟨(Lib.itoa n).toArray⟩) ∧ ∃ k os, w' = grow (w.drewN k) os := Any.internal_strconv_Itoa Tryd.laysM243 n h0 h1 w htab
def Tryd.lays243_ren : Go.Shelf.Ren := ⟨fun | 243 => 61 | 246 => 62 | 283 => 63 | 284 => 64 | 285 => 65 | 286 => 66 | 129 => 68 | 317 => 67 | 318 => 69 | 319 => 70 | 320 => 71 | 337 => 72 | 338 => 73 | n => n, fun | 3 => 3 | 9 => 9 | 2 => 2 | 4 => 4 | 171 => 40 | 0 => 0 | 53 => 39 | 37 => 22 | 5 => 5 | 173 => 92 | 212 => 95 | 51 => 78 | 20 => 20 | 213 => 96 | 46 => 64 | 232 => 100 | 233 => 101 | n => n, fun | 17 => 5 | 18 => 6 | 19 => 7 | n => n⟩
theorem Tryd.lays243 : Go.Proofs.Lays.n243 Tryd.prog Tryd.lays243_ren := {
  mixed := by kernel_rfl
  f129 := Tryd.func68.trans (congrArg some (by kernel_rfl))
  f243 := Tryd.func61.trans (congrArg some (by kernel_rfl))
  f246 := Tryd.func62.trans (congrArg some (by kernel_rfl))
  f283 := Tryd.func63.trans (congrArg some (by kernel_rfl))
  f284 := Tryd.func64.trans (congrArg some (by kernel_rfl))
  f285 := Tryd.func65.trans (congrArg some (by kernel_rfl))
  f286 := Tryd.func66.trans (congrArg some (by kernel_rfl))
  f317 := Tryd.func67.trans (congrArg some (by kernel_rfl))
  f318 := Tryd.func69.trans (congrArg some (by kernel_rfl))
  f319 := Tryd.func70.trans (congrArg some (by kernel_rfl))
  f320 := Tryd.func71.trans (congrArg some (by kernel_rfl))
  f337 := Tryd.func72.trans (congrArg some (by kernel_rfl))
  f338 := Tryd.func73.trans (congrArg some (by kernel_rfl))
  t0 := Tryd.underlying0
  a0 := Tryd.isAgg0
  z0 := Tryd.sizeOf0
  v0 := Tryd.zeroValue0
  t2 := Tryd.underlying2
  a2 := Tryd.isAgg2
  z2 := Tryd.sizeOf2
  v2 := Tryd.zeroValue2
  t3 := Tryd.underlying3
  a3 := Tryd.isAgg3
  z3 := Tryd.sizeOf3
  v3 := Tryd.zeroValue3
  t4 := Tryd.underlying4
  a4 := Tryd.isAgg4
  z4 := Tryd.sizeOf4
  v4 := Tryd.zeroValue4
  t5 := Tryd.underlying5
  a5 := Tryd.isAgg5
  z5 := Tryd.sizeOf5
  v5 := Tryd.zeroValue5
  t9 := Tryd.underlying9
  a9 := Tryd.isAgg9
  z9 := Tryd.sizeOf9
  v9 := Tryd.zeroValue9
  t20 := Tryd.underlying20
  a20 := Tryd.isAgg20
  z20 := Tryd.sizeOf20
  v20 := Tryd.zeroValue20
  t37 := Tryd.underlying22
  a37 := Tryd.isAgg22
  z37 := Tryd.sizeOf22
  v37 := Tryd.zeroValue22
  t46 := Tryd.underlying64
  a46 := Tryd.isAgg64
  z46 := Tryd.sizeOf64
  v46 := Tryd.zeroValue64
  t51 := Tryd.underlying78
  a51 := Tryd.isAgg78
  z51 := Tryd.sizeOf78
  v51 := Tryd.zeroValue78
  t53 := Tryd.underlying39
  a53 := Tryd.isAgg39
  z53 := Tryd.sizeOf39
  v53 := Tryd.zeroValue39
  t171 := Tryd.underlying40
  a171 := Tryd.isAgg40
  z171 := Tryd.sizeOf40
  v171 := Tryd.zeroValue40
  t173 := Tryd.underlying92
  a173 := Tryd.isAgg92
  z173 := Tryd.sizeOf92
  v173 := Tryd.zeroValue92
  t212 := Tryd.underlying95
  a212 := Tryd.isAgg95
  z212 := Tryd.sizeOf95
  v212 := Tryd.zeroValue95
  t213 := Tryd.underlying96
  a213 := Tryd.isAgg96
  z213 := Tryd.sizeOf96
  t232 := Tryd.underlying100
  a232 := Tryd.isAgg100
  z232 := Tryd.sizeOf100
  v232 := Tryd.zeroValue100
  t233 := Tryd.underlying101
  a233 := Tryd.isAgg101
  z233 := Tryd.sizeOf101
  v233 := Tryd.zeroValue101
  g17 := by kernel_rfl
  g18 := by kernel_rfl
  g19 := by kernel_rfl }
open Go.RowKit Go.Sort Go.Lib in
theorem Tryd.internal_strconv_Itoa_small (i : Nat) (hi : i < 100) (w : World) :
    Calls Tryd.prog 61 #[.int .i64 i] w fun e w' => e = .returned (.string ⟨(Lib.decDigits i).toArray⟩) ∧ w' = w := Any.internal_strconv_Itoa_small Tryd.lays243 i hi w
def Tryd.laysM171_ren : Go.Shelf.Ren := ⟨fun | 171 => 57 | 243 => 61 | 246 => 62 | 283 => 63 | 284 => 64 | 285 => 65 | 286 => 66 | 129 => 68 | 317 => 67 | 318 => 69 | 319 => 70 | 320 => 71 | 337 => 72 | 338 => 73 | n => n, fun | 3 => 3 | 9 => 9 | 2 => 2 | 4 => 4 | 171 => 40 | 0 => 0 | 53 => 39 | 37 => 22 | 5 => 5 | 173 => 92 | 212 => 95 | 51 => 78 | 20 => 20 | 213 => 96 | 46 => 64 | 232 => 100 | 233 => 101 | n => n, fun | 17 => 5 | 18 => 6 | 19 => 7 | n => n⟩
theorem Tryd.laysM171 : Go.Proofs.LaysM.n171 Tryd.prog Tryd.laysM171_ren := {
  mixed := by kernel_rfl
  f129 := Tryd.func68.trans (congrArg some (by kernel_rfl))
  f171 := Tryd.func57.trans (congrArg some (by kernel_rfl))
  f243 := Tryd.func61.trans (congrArg some (by kernel_rfl))
  f246 := Tryd.func62.trans (congrArg some (by kernel_rfl))
  f283 := Tryd.func63.trans (congrArg some (by kernel_rfl))
  f284 := Tryd.func64.trans (congrArg some (by kernel_rfl))
  f285 := Tryd.func65.trans (congrArg some (by kernel_rfl))
  f286 := Tryd.func66.trans (congrArg some (by kernel_rfl))
  f317 := Tryd.func67.trans (congrArg some (by kernel_rfl))
  f318 := Tryd.func69.trans (congrArg some (by kernel_rfl))
  f319 := Tryd.func70.trans (congrArg some (by kernel_rfl))
  f320 := Tryd.func71.trans (congrArg some (by kernel_rfl))
  f337 := Tryd.func72.trans (congrArg some (by kernel_rfl))
  f338 := Tryd.func73.trans (congrArg some (by kernel_rfl))
  t0 := Tryd.underlying0
  a0 := Tryd.isAgg0
  z0 := Tryd.sizeOf0
  v0 := Tryd.zeroValue0
  t2 := Tryd.underlying2
  a2 := Tryd.isAgg2
  z2 := Tryd.sizeOf2
  v2 := Tryd.zeroValue2
  t3 := Tryd.underlying3
  a3 := Tryd.isAgg3
  z3 := Tryd.sizeOf3
  v3 := Tryd.zeroValue3
  t4 := Tryd.underlying4
  a4 := Tryd.isAgg4
  z4 := Tryd.sizeOf4
  v4 := Tryd.zeroValue4
  t5 := Tryd.underlying5
  a5 := Tryd.isAgg5
  z5 := Tryd.sizeOf5
  v5 := Tryd.zeroValue5
  t9 := Tryd.underlying9
  a9 := Tryd.isAgg9
  z9 := Tryd.sizeOf9
  v9 := Tryd.zeroValue9
  t20 := Tryd.underlying20
  a20 := Tryd.isAgg20
  z20 := Tryd.sizeOf20
  v20 := Tryd.zeroValue20
  t37 := Tryd.underlying22
  a37 := Tryd.isAgg22
  z37 := Tryd.sizeOf22
  v37 := Tryd.zeroValue22
  t46 := Tryd.underlying64
  a46 := Tryd.isAgg64
  z46 := Tryd.sizeOf64
  v46 := Tryd.zeroValue64
  t51 := Tryd.underlying78
  a51 := Tryd.isAgg78
  z51 := Tryd.sizeOf78
  v51 := Tryd.zeroValue78
  t53 := Tryd.underlying39
  a53 := Tryd.isAgg39
  z53 := Tryd.sizeOf39
  v53 := Tryd.zeroValue39
  t171 := Tryd.underlying40
  a171 := Tryd.isAgg40
  z171 := Tryd.sizeOf40
  v171 := Tryd.zeroValue40
  t173 := Tryd.underlying92
  a173 := Tryd.isAgg92
  z173 := Tryd.sizeOf92
  v173 := Tryd.zeroValue92
  t212 := Tryd.underlying95
  a212 := Tryd.isAgg95
  z212 := Tryd.sizeOf95
  v212 := Tryd.zeroValue95
  t213 := Tryd.underlying96
  a213 := Tryd.isAgg96
  z213 := Tryd.sizeOf96
  t232 := Tryd.underlying100
  a232 := Tryd.isAgg100
  z232 := Tryd.sizeOf100
  v232 := Tryd.zeroValue100
  t233 := Tryd.underlying101
  a233 := Tryd.isAgg101
  z233 := Tryd.sizeOf101
  v233 := Tryd.zeroValue101
  g17 := by kernel_rfl
  g18 := by kernel_rfl
  g19 := by kernel_rfl
  i0 := by kernel_rfl
  i2 := by kernel_rfl
  i3 := by kernel_rfl
  i4 := by kernel_rfl
  i5 := by kernel_rfl
  i9 := by kernel_rfl
  i20 := by kernel_rfl
  i37 := by kernel_rfl
  i46 := by kernel_rfl
  i51 := by kernel_rfl
  i53 := by kernel_rfl
  i171 := by kernel_rfl
  i173 := by kernel_rfl
  i212 := by kernel_rfl
  i232 := by kernel_rfl
  i233 := by kernel_rfl
  m17 := by kernel_rfl
  m18 := by kernel_rfl
  m19 := by kernel_rfl }
open Go.RowKit Go.Sort Go.Lib in
theorem Tryd.strconv_Itoa (n : Int) (h0 : -9223372036854775808 ≤ n) (h1 : n ≤ 9223372036854775807) (w : World) (htab : Lib.TabIs Tryd.prog w "internal/strconv.uint64pow10" .u64 Lib.pow10Tab) :
    Calls Tryd.prog 57 #[.int .i64 n] w fun e w' => e = .returned (.string ⟨(Lib.itoa n).toArray⟩) ∧ ∃ k os, w' = grow (w.drewN k) os := Any.strconv_Itoa Tryd.laysM171 n h0 h1 w htab
def Tryd.lays171_ren : Go.Shelf.Ren := ⟨fun | 171 => 57 | 243 => 61 | 246 => 62 | 283 => 63 | 284 => 64 | 285 => 65 | 286 => 66 | 129 => 68 | 317 => 67 | 318 => 69 | 319 => 70 | 320 => 71 | 337 => 72 | 338 => 73 | n => n, fun | 3 => 3 | 9 => 9 | 2 => 2 | 4 => 4 | 171 => 40 | 0 => 0 | 53 => 39 | 37 => 22 | 5 => 5 | 173 => 92 | 212 => 95 | 51 => 78 | 20 => 20 | 213 => 96 | 46 => 64 | 232 => 100 | 233 => 101 | n => n, fun | 17 => 5 | 18 => 6 | 19 => 7 | n => n⟩
theorem Tryd.lays171 : Go.Proofs.Lays.n171 Tryd.prog Tryd.lays171_ren := {
  mixed := by kernel_rfl
  f129 := Tryd.func68.trans (congrArg some (by kernel_rfl))
  f171 := Tryd.func57.trans (congrArg some (by kernel_rfl))
  f243 := Tryd.func61.trans (congrArg some (by kernel_rfl))
  f246 := Tryd.func62.trans (congrArg some (by kernel_rfl))
  f283 := Tryd.func63.trans (congrArg some (by kernel_rfl))
  f284 := Tryd.func64.trans (congrArg some (by kernel_rfl))
  f285 := Tryd.func65.trans (congrArg some (by kernel_rfl))
  f286 := Tryd.func66.trans (congrArg some (by kernel_rfl))
  f317 := Tryd.func67.trans (congrArg some (by kernel_rfl))
  f318 := Tryd.func69.trans (congrArg some (by kernel_rfl))
  f319 := Tryd.func70.trans (congrArg some (by kernel_rfl))
  f320 := Tryd.func71.trans (congrArg some (by kernel_rfl))
  f337 := Tryd.func72.trans (congrArg some (by kernel_rfl))
  f338 := Tryd.func73.trans (congrArg some (by kernel_rfl))
  t0 := Tryd.underlying0
  a0 := Tryd.isAgg0
  z0 := Tryd.sizeOf0
  v0 := Tryd.zeroValue0
  t2 := Tryd.underlying2
  a2 := Tryd.isAgg2
  z2 := Tryd.sizeOf2
  v2 := Tryd.zeroValue2
  t3 := Tryd.underlying3
  a3 := Tryd.isAgg3
  z3 := Tryd.sizeOf3
  v3 := Tryd.zeroValue3
  t4 := Tryd.underlying4
  a4 := Tryd.isAgg4
  z4 := Tryd.sizeOf4
  v4 := Tryd.zeroValue4
  t5 := Tryd.underlying5
  a5 := Tryd.isAgg5
  z5 := Tryd.sizeOf5
  v5 := Tryd.zeroValue5
  t9 := Tryd.underlying9
  a9 := Tryd.isAgg9
  z9 := Tryd.sizeOf9
  v9 := Tryd.zeroValue9
  t20 := Tryd.underlying20
  a20 := Tryd.isAgg20
  z20 := Tryd.sizeOf20
  v20 := Tryd.zeroValue20
  t37 := Tryd.underlying22
  a37 := Tryd.isAgg22
  z37 := Tryd.sizeOf22
  v37 := Tryd.zeroValue22
  t46 := Tryd.underlying64
  a46 := Tryd.isAgg64
  z46 := Tryd.sizeOf64
  v46 := Tryd.zeroValue64
  t51 := Tryd.underlying78
  a51 := Tryd.isAgg78
  z51 := Tryd.sizeOf78
  v51 := Tryd.zeroValue78
  t53 := Tryd.underlying39
  a53 := Tryd.isAgg39
  z53 := Tryd.sizeOf39
  v53 := Tryd.zeroValue39
  t171 := Tryd.underlying40
  a171 := Tryd.isAgg40
  z171 := Tryd.sizeOf40
  v171 := Tryd.zeroValue40
  t173 := Tryd.underlying92
  a173 := Tryd.isAgg92
  z173 := Tryd.sizeOf92
  v173 := Tryd.zeroValue92
  t212 := Tryd.underlying95
  a212 := Tryd.isAgg95
  z212 := Tryd.sizeOf95
  v212 := Tryd.zeroValue95
  t213 := Tryd.underlying96
  a213 := Tryd.isAgg96
  z213 := Tryd.sizeOf96
  t232 := Tryd.underlying100
  a232 := Tryd.isAgg100
  z232 := Tryd.sizeOf100
  v232 := Tryd.zeroValue100
  t233 := Tryd.underlying101
  a233 := Tryd.isAgg101
  z233 := Tryd.sizeOf101
  v233 := Tryd.zeroValue101
  g17 := by kernel_rfl
  g18 := by kernel_rfl
  g19 := by kernel_rfl }
open Go.RowKit Go.Sort Go.Lib in
theorem Tryd.strconv_Itoa_small (i : Nat) (hi : i < 100) (w : World) :
    Calls Tryd.prog 57 #[.int .i64 i] w fun e w' => e = .returned (.string ⟨(Lib.decDigits i).toArray⟩) ∧ w' = w := Any.strconv_Itoa_small Tryd.lays171 i hi w
def Tryd.lays247_ren : Go.Shelf.Ren := ⟨fun | 247 => 29 | 287 => 40 | 321 => 53 | 322 => 54 | n => n, fun | 9 => 9 | 3 => 3 | 2 => 2 | 75 => 44 | 4 => 4 | 167 => 61 | 5 => 5 | 53 => 39 | 175 => 62 | 46 => 64 | 37 => 22 | 0 => 0 | 21 => 21 | 80 => 104 | n => n, fun | n => n⟩
theorem Tryd.lays247 : Go.Proofs.Lays.n247 Tryd.prog Tryd.lays247_ren := {
  mixed := by kernel_rfl
  f247 := Tryd.func29.trans (congrArg some (by kernel_rfl))
  f287 := Tryd.func40.trans (congrArg some (by kernel_rfl))
  f321 := Tryd.func53.trans (congrArg some (by kernel_rfl))
  f322 := Tryd.func54.trans (congrArg some (by kernel_rfl))
  t0 := Tryd.underlying0
  a0 := Tryd.isAgg0
  z0 := Tryd.sizeOf0
  v0 := Tryd.zeroValue0
  t2 := Tryd.underlying2
  a2 := Tryd.isAgg2
  z2 := Tryd.sizeOf2
  v2 := Tryd.zeroValue2
  t3 := Tryd.underlying3
  a3 := Tryd.isAgg3
  z3 := Tryd.sizeOf3
  v3 := Tryd.zeroValue3
  t4 := Tryd.underlying4
  a4 := Tryd.isAgg4
  z4 := Tryd.sizeOf4
  v4 := Tryd.zeroValue4
  t5 := Tryd.underlying5
  a5 := Tryd.isAgg5
  z5 := Tryd.sizeOf5
  v5 := Tryd.zeroValue5
  t9 := Tryd.underlying9
  a9 := Tryd.isAgg9
  z9 := Tryd.sizeOf9
  v9 := Tryd.zeroValue9
  t21 := Tryd.underlying21
  a21 := Tryd.isAgg21
  z21 := Tryd.sizeOf21
  v21 := Tryd.zeroValue21
  t37 := Tryd.underlying22
  a37 := Tryd.isAgg22
  z37 := Tryd.sizeOf22
  v37 := Tryd.zeroValue22
  t46 := Tryd.underlying64
  a46 := Tryd.isAgg64
  z46 := Tryd.sizeOf64
  v46 := Tryd.zeroValue64
  t53 := Tryd.underlying39
  a53 := Tryd.isAgg39
  z53 := Tryd.sizeOf39
  v53 := Tryd.zeroValue39
  t75 := Tryd.underlying44
  a75 := Tryd.isAgg44
  z75 := Tryd.sizeOf44
  v75 := Tryd.zeroValue44
  t167 := Tryd.underlying61
  a167 := Tryd.isAgg61
  z167 := Tryd.sizeOf61
  v167 := Tryd.zeroValue61
  t175 := Tryd.underlying62
  a175 := Tryd.isAgg62
  z175 := Tryd.sizeOf62
  v175 := Tryd.zeroValue62 }
open Go.RowKit in
theorem Tryd.internal_strconv_ParseInt_empty (base bits : Int) (w : World) :
    Calls Tryd.prog 29 #[.string ⟨#[]⟩, .int .i64 base, .int .i64 bits] w fun e w' => e = .returned (.tuple #[.int .i64 0, (.iface 61 (.int .i64 2))]) ∧ w' = w := Any.internal_strconv_ParseInt_empty Tryd.lays247 base bits w
def Tryd.laysM316_ren : Go.Shelf.Ren := ⟨fun | 316 => 55 | n => n, fun | 9 => 9 | 3 => 3 | 4 => 4 | 37 => 22 | 0 => 0 | 127 => 85 | 5 => 5 | n => n, fun | n => n⟩
theorem Tryd.laysM316 : Go.Proofs.LaysM.n316 Tryd.prog Tryd.laysM316_ren := {
  mixed := by kernel_rfl
  f316 := Tryd.func55.trans (congrArg some (by kernel_rfl))
  t0 := Tryd.underlying0
  a0 := Tryd.isAgg0
  z0 := Tryd.sizeOf0
  v0 := Tryd.zeroValue0
  t3 := Tryd.underlying3
  a3 := Tryd.isAgg3
  z3 := Tryd.sizeOf3
  v3 := Tryd.zeroValue3
  t4 := Tryd.underlying4
  a4 := Tryd.isAgg4
  z4 := Tryd.sizeOf4
  v4 := Tryd.zeroValue4
  t9 := Tryd.underlying9
  a9 := Tryd.isAgg9
  z9 := Tryd.sizeOf9
  v9 := Tryd.zeroValue9
  t37 := Tryd.underlying22
  a37 := Tryd.isAgg22
  z37 := Tryd.sizeOf22
  v37 := Tryd.zeroValue22
  t127 := Tryd.underlying85
  a127 := Tryd.isAgg85
  z127 := Tryd.sizeOf85
  v127 := Tryd.zeroValue85
  t5 := Tryd.underlying5
  a5 := Tryd.isAgg5
  z5 := Tryd.sizeOf5
  v5 := Tryd.zeroValue5
  i0 := by kernel_rfl
  i3 := by kernel_rfl
  i4 := by kernel_rfl
  i5 := by kernel_rfl
  i9 := by kernel_rfl
  i37 := by kernel_rfl
  i127 := by kernel_rfl }
open Go.RowKit in
theorem Tryd.stringslite_Clone (s : ByteArray) (w : World) (hlim : s.size ≤ 281474976710656) :
    Calls Tryd.prog 55 #[.string s] w fun e w' => e = .returned (.string s) ∧ Below w.heap.size w w' := Any.stringslite_Clone Tryd.laysM316 s w hlim
def Tryd.laysM279_ren : Go.Shelf.Ren := ⟨fun | 279 => 41 | 316 => 55 | n => n, fun | 9 => 9 | 168 => 65 | 75 => 44 | 210 => 75 | 3 => 3 | 4 => 4 | 37 => 22 | 0 => 0 | 127 => 85 | 80 => 104 | 5 => 5 | n => n, fun | 15 => 1 | n => n⟩
theorem Tryd.laysM279 : Go.Proofs.LaysM.n279 Tryd.prog Tryd.laysM279_ren := {
  mixed := by kernel_rfl
  f279 := Tryd.func41.trans (congrArg some (by kernel_rfl))
  f316 := Tryd.func55.trans (congrArg some (by kernel_rfl))
  t0 := Tryd.underlying0
  a0 := Tryd.isAgg0
  z0 := Tryd.sizeOf0
  v0 := Tryd.zeroValue0
  t3 := Tryd.underlying3
  a3 := Tryd.isAgg3
  z3 := Tryd.sizeOf3
  v3 := Tryd.zeroValue3
  t4 := Tryd.underlying4
  a4 := Tryd.isAgg4
  z4 := Tryd.sizeOf4
  v4 := Tryd.zeroValue4
  t9 := Tryd.underlying9
  a9 := Tryd.isAgg9
  z9 := Tryd.sizeOf9
  v9 := Tryd.zeroValue9
  t37 := Tryd.underlying22
  a37 := Tryd.isAgg22
  z37 := Tryd.sizeOf22
  v37 := Tryd.zeroValue22
  t75 := Tryd.underlying44
  a75 := Tryd.isAgg44
  z75 := Tryd.sizeOf44
  v75 := Tryd.zeroValue44
  t127 := Tryd.underlying85
  a127 := Tryd.isAgg85
  z127 := Tryd.sizeOf85
  v127 := Tryd.zeroValue85
  t168 := Tryd.underlying65
  a168 := Tryd.isAgg65
  z168 := Tryd.sizeOf65
  v168 := Tryd.zeroValue65
  t210 := Tryd.underlying75
  a210 := Tryd.isAgg75
  z210 := Tryd.sizeOf75
  v210 := Tryd.zeroValue75
  g15 := by kernel_rfl
  t5 := Tryd.underlying5
  a5 := Tryd.isAgg5
  z5 := Tryd.sizeOf5
  v5 := Tryd.zeroValue5
  t80 := Tryd.underlying104
  a80 := Tryd.isAgg104
  z80 := Tryd.sizeOf104
  v80 := Tryd.zeroValue104
  i0 := by kernel_rfl
  i3 := by kernel_rfl
  i4 := by kernel_rfl
  i5 := by kernel_rfl
  i9 := by kernel_rfl
  i37 := by kernel_rfl
  i75 := by kernel_rfl
  i80 := by kernel_rfl
  i127 := by kernel_rfl
  i168 := by kernel_rfl
  i210 := by kernel_rfl
  m15 := by kernel_rfl }
open Go.RowKit in
theorem Tryd.strconv_syntaxError (fn s : ByteArray) (ev : Value) (w : World) (hlim : s.size ≤ 281474976710656) (hv : w.cell? ⟨1, 0, none⟩ = some ev) (hev : ev = .nilIface ∨ ∃ te pe, ev = .iface te pe) :
    Calls Tryd.prog 41 #[.string fn, .string s] w fun e w' => ∃ N, e = .returned (.pointer (some ⟨N, 0, none⟩)) ∧ w.heap.size ≤ N ∧ w'.heap[N]? = some (.cells #[.string fn, .string s, ev] 75 (0, 0)) ∧ Below w.heap.size w w' := Any.strconv_syntaxError Tryd.laysM279 fn s ev w hlim hv hev
def Tryd.laysC245_ren : Go.Shelf.Ren := ⟨fun | 245 => 30 | 279 => 41 | 280 => 42 | 281 => 43 | 282 => 44 | 316 => 55 | 171 => 57 | 205 => 56 | 243 => 61 | 246 => 62 | 283 => 63 | 284 => 64 | 285 => 65 | 286 => 66 | 129 => 68 | 317 => 67 | 318 => 69 | 319 => 70 | 320 => 71 | 337 => 72 | 338 => 73 | n => n, fun | 9 => 9 | 3 => 3 | 75 => 44 | 167 => 61 | 4 => 4 | 168 => 65 | 210 => 75 | 37 => 22 | 0 => 0 | 127 => 85 | 145 => 88 | 143 => 86 | 2 => 2 | 171 => 40 | 53 => 39 | 5 => 5 | 173 => 92 | 212 => 95 | 51 => 78 | 20 => 20 | 213 => 96 | 46 => 64 | 232 => 100 | 233 => 101 | 80 => 104 | n => n, fun | 15 => 1 | 16 => 2 | 17 => 5 | 18 => 6 | 19 => 7 | n => n⟩
theorem Tryd.laysC245 : Go.Proofs.LaysC.n245 Tryd.prog Tryd.laysC245_ren := {
  mixed := by kernel_rfl
  f129 := Tryd.func68.trans (congrArg some (by kernel_rfl))
  f171 := Tryd.func57.trans (congrArg some (by kernel_rfl))
  f205 := Tryd.func56.trans (congrArg some (by kernel_rfl))
  f243 := Tryd.func61.trans (congrArg some (by kernel_rfl))
  f245 := Tryd.func30.trans (congrArg some (by kernel_rfl))
  f246 := Tryd.func62.trans (congrArg some (by kernel_rfl))
  f279 := Tryd.func41.trans (congrArg some (by kernel_rfl))
  f280 := Tryd.func42.trans (congrArg some (by kernel_rfl))
  f281 := Tryd.func43.trans (congrArg some (by kernel_rfl))
  f282 := Tryd.func44.trans (congrArg some (by kernel_rfl))
  f283 := Tryd.func63.trans (congrArg some (by kernel_rfl))
  f284 := Tryd.func64.trans (congrArg some (by kernel_rfl))
  f285 := Tryd.func65.trans (congrArg some (by kernel_rfl))
  f286 := Tryd.func66.trans (congrArg some (by kernel_rfl))
  f316 := Tryd.func55.trans (congrArg some (by kernel_rfl))
  f317 := Tryd.func67.trans (congrArg some (by kernel_rfl))
  f318 := Tryd.func69.trans (congrArg some (by kernel_rfl))
  f319 := Tryd.func70.trans (congrArg some (by kernel_rfl))
  f320 := Tryd.func71.trans (congrArg some (by kernel_rfl))
  f337 := Tryd.func72.trans (congrArg some (by kernel_rfl))
  f338 := Tryd.func73.trans (congrArg some (by kernel_rfl))
  t0 := Tryd.underlying0
  a0 := Tryd.isAgg0
  z0 := Tryd.sizeOf0
  v0 := Tryd.zeroValue0
  t2 := Tryd.underlying2
  a2 := Tryd.isAgg2
  z2 := Tryd.sizeOf2
  v2 := Tryd.zeroValue2
  t3 := Tryd.underlying3
  a3 := Tryd.isAgg3
  z3 := Tryd.sizeOf3
  v3 := Tryd.zeroValue3
  t4 := Tryd.underlying4
  a4 := Tryd.isAgg4
  z4 := Tryd.sizeOf4
  v4 := Tryd.zeroValue4
  t5 := Tryd.underlying5
  a5 := Tryd.isAgg5
  z5 := Tryd.sizeOf5
  v5 := Tryd.zeroValue5
  t9 := Tryd.underlying9
  a9 := Tryd.isAgg9
  z9 := Tryd.sizeOf9
  v9 := Tryd.zeroValue9
  t20 := Tryd.underlying20
  a20 := Tryd.isAgg20
  z20 := Tryd.sizeOf20
  v20 := Tryd.zeroValue20
  t37 := Tryd.underlying22
  a37 := Tryd.isAgg22
  z37 := Tryd.sizeOf22
  v37 := Tryd.zeroValue22
  t46 := Tryd.underlying64
  a46 := Tryd.isAgg64
  z46 := Tryd.sizeOf64
  v46 := Tryd.zeroValue64
  t51 := Tryd.underlying78
  a51 := Tryd.isAgg78
  z51 := Tryd.sizeOf78
  v51 := Tryd.zeroValue78
  t53 := Tryd.underlying39
  a53 := Tryd.isAgg39
  z53 := Tryd.sizeOf39
  v53 := Tryd.zeroValue39
  t75 := Tryd.underlying44
  a75 := Tryd.isAgg44
  z75 := Tryd.sizeOf44
  v75 := Tryd.zeroValue44
  t127 := Tryd.underlying85
  a127 := Tryd.isAgg85
  z127 := Tryd.sizeOf85
  v127 := Tryd.zeroValue85
  t143 := Tryd.underlying86
  a143 := Tryd.isAgg86
  z143 := Tryd.sizeOf86
  v143 := Tryd.zeroValue86
  t145 := Tryd.underlying88
  a145 := Tryd.isAgg88
  z145 := Tryd.sizeOf88
  v145 := Tryd.zeroValue88
  t167 := Tryd.underlying61
  a167 := Tryd.isAgg61
  z167 := Tryd.sizeOf61
  v167 := Tryd.zeroValue61
  t168 := Tryd.underlying65
  a168 := Tryd.isAgg65
  z168 := Tryd.sizeOf65
  v168 := Tryd.zeroValue65
  t171 := Tryd.underlying40
  a171 := Tryd.isAgg40
  z171 := Tryd.sizeOf40
  v171 := Tryd.zeroValue40
  t173 := Tryd.underlying92
  a173 := Tryd.isAgg92
  z173 := Tryd.sizeOf92
  v173 := Tryd.zeroValue92
  t210 := Tryd.underlying75
  a210 := Tryd.isAgg75
  z210 := Tryd.sizeOf75
  v210 := Tryd.zeroValue75
  t212 := Tryd.underlying95
  a212 := Tryd.isAgg95
  z212 := Tryd.sizeOf95
  v212 := Tryd.zeroValue95
  t213 := Tryd.underlying96
  a213 := Tryd.isAgg96
  z213 := Tryd.sizeOf96
  t232 := Tryd.underlying100
  a232 := Tryd.isAgg100
  z232 := Tryd.sizeOf100
  v232 := Tryd.zeroValue100
  t233 := Tryd.underlying101
  a233 := Tryd.isAgg101
  z233 := Tryd.sizeOf101
  v233 := Tryd.zeroValue101
  g15 := by kernel_rfl
  g16 := by kernel_rfl
  g17 := by kernel_rfl
  g18 := by kernel_rfl
  g19 := by kernel_rfl
  t80 := Tryd.underlying104
  a80 := Tryd.isAgg104
  z80 := Tryd.sizeOf104
  v80 := Tryd.zeroValue104
  i0 := by kernel_rfl
  i2 := by kernel_rfl
  i3 := by kernel_rfl
  i4 := by kernel_rfl
  i5 := by kernel_rfl
  i9 := by kernel_rfl
  i20 := by kernel_rfl
  i37 := by kernel_rfl
  i46 := by kernel_rfl
  i51 := by kernel_rfl
  i53 := by kernel_rfl
  i75 := by kernel_rfl
  i80 := by kernel_rfl
  i127 := by kernel_rfl
  i143 := by kernel_rfl
  i145 := by kernel_rfl
  i167 := by kernel_rfl
  i168 := by kernel_rfl
  i171 := by kernel_rfl
  i173 := by kernel_rfl
  i210 := by kernel_rfl
  i212 := by kernel_rfl
  i232 := by kernel_rfl
  i233 := by kernel_rfl
  m15 := by kernel_rfl
  m16 := by kernel_rfl
  m17 := by kernel_rfl
  m18 := by kernel_rfl
  m19 := by kernel_rfl
  c0 := by kernel_rfl
  c2 := by kernel_rfl
  c3 := by kernel_rfl
  c4 := by kernel_rfl
  c5 := by kernel_rfl
  c9 := by kernel_rfl
  c20 := by kernel_rfl
  c37 := by kernel_rfl
  c46 := by kernel_rfl
  c51 := by kernel_rfl
  c53 := by kernel_rfl
  c75 := by kernel_rfl
  c80 := by kernel_rfl
  c127 := by kernel_rfl
  c143 := by kernel_rfl
  c145 := by kernel_rfl
  c167 := by kernel_rfl
  c168 := by kernel_rfl
  c171 := by kernel_rfl
  c173 := by kernel_rfl
  c210 := by kernel_rfl
  c212 := by kernel_rfl
  c213 := by kernel_rfl
  c232 := by kernel_rfl
  c233 := by kernel_rfl }
open Go.RowKit in
theorem Tryd.strconv_toError_syntax (fn s : ByteArray) (base bits : Int) (ev : Value) (w : World) (hlim : s.size ≤ 281474976710656) (hv : w.cell? ⟨1, 0, none⟩ = some ev) (hev : ev = .nilIface ∨ ∃ te pe, ev = .iface te pe) :
    Calls Tryd.prog 30 #[.string fn, .string s, .int .i64 base, .int .i64 bits, .iface 61 (.int .i64 2)] w fun e w' => ∃ N, e = .returned (.iface 65 (.pointer (some ⟨N, 0, none⟩))) ∧ w.heap.size ≤ N ∧ w'.heap[N]? = some (.cells #[.string fn, .string s, ev] 75 (0, 0)) ∧ Below w.heap.size w w' := Any.strconv_toError_syntax Tryd.laysC245 fn s base bits ev w hlim hv hev
def Tryd.lays321_ren : Go.Shelf.Ren := ⟨fun | 321 => 53 | n => n, fun | 5 => 5 | n => n, fun | n => n⟩
theorem Tryd.lays321 : Go.Proofs.Lays.n321 Tryd.prog Tryd.lays321_ren := {
  mixed := by kernel_rfl
  f321 := Tryd.func53.trans (congrArg some (by kernel_rfl))
  t5 := Tryd.underlying5
  a5 := Tryd.isAgg5
  z5 := Tryd.sizeOf5
  v5 := Tryd.zeroValue5 }
open Go.RowKit in
theorem Tryd.internal_strconv_lower (c : Int) (w : World) :
    Calls Tryd.prog 53 #[.int .u8 c] w fun e w' => e = .returned (.int .u8 (bits .or .u8 c 32)) ∧ w' = w := Any.internal_strconv_lower Tryd.lays321 c w
def Tryd.lays287_ren : Go.Shelf.Ren := ⟨fun | 287 => 40 | 321 => 53 | 322 => 54 | n => n, fun | 9 => 9 | 3 => 3 | 53 => 39 | 75 => 44 | 4 => 4 | 167 => 61 | 5 => 5 | 46 => 64 | 37 => 22 | 0 => 0 | 21 => 21 | 80 => 104 | n => n, fun | n => n⟩
theorem Tryd.lays287 : Go.Proofs.Lays.n287 Tryd.prog Tryd.lays287_ren := {
  mixed := by kernel_rfl
  f287 := Tryd.func40.trans (congrArg some (by kernel_rfl))
  f321 := Tryd.func53.trans (congrArg some (by kernel_rfl))
  f322 := Tryd.func54.trans (congrArg some (by kernel_rfl))
  t0 := Tryd.underlying0
  a0 := Tryd.isAgg0
  z0 := Tryd.sizeOf0
  v0 := Tryd.zeroValue0
  t3 := Tryd.underlying3
  a3 := Tryd.isAgg3
  z3 := Tryd.sizeOf3
  v3 := Tryd.zeroValue3
  t4 := Tryd.underlying4
  a4 := Tryd.isAgg4
  z4 := Tryd.sizeOf4
  v4 := Tryd.zeroValue4
  t5 := Tryd.underlying5
  a5 := Tryd.isAgg5
  z5 := Tryd.sizeOf5
  v5 := Tryd.zeroValue5
  t9 := Tryd.underlying9
  a9 := Tryd.isAgg9
  z9 := Tryd.sizeOf9
  v9 := Tryd.zeroValue9
  t21 := Tryd.underlying21
  a21 := Tryd.isAgg21
  z21 := Tryd.sizeOf21
  v21 := Tryd.zeroValue21
  t37 := Tryd.underlying22
  a37 := Tryd.isAgg22
  z37 := Tryd.sizeOf22
  v37 := Tryd.zeroValue22
  t46 := Tryd.underlying64
  a46 := Tryd.isAgg64
  z46 := Tryd.sizeOf64
  v46 := Tryd.zeroValue64
  t53 := Tryd.underlying39
  a53 := Tryd.isAgg39
  z53 := Tryd.sizeOf39
  v53 := Tryd.zeroValue39
  t75 := Tryd.underlying44
  a75 := Tryd.isAgg44
  z75 := Tryd.sizeOf44
  v75 := Tryd.zeroValue44
  t167 := Tryd.underlying61
  a167 := Tryd.isAgg61
  z167 := Tryd.sizeOf61
  v167 := Tryd.zeroValue61 }
open Go.RowKit in
theorem Tryd.internal_strconv_ParseUint_10 (t : ByteArray) (hne : t.size ≠ 0) (hmax : t.size ≤ 9223372036854775806) (w : World) :
    Calls Tryd.prog 40 #[.string t, .int .i64 10, .int .i64 0] w fun e w' => e = .returned (Lib.uintTuple 61 (Lib.parseUint10 0 t.data.toList)) ∧ w' = Lib.bytesWorld w 5 t := Any.internal_strconv_ParseUint_10 Tryd.lays287 t hne hmax w
open Go.RowKit in
theorem Tryd.internal_strconv_ParseUint_10_empty (w : World) :
    Calls Tryd.prog 40 #[.string ⟨#[]⟩, .int .i64 10, .int .i64 0] w fun e w' => e = .returned (Lib.uintTuple 61 .syntax) ∧ w' = w := Any.internal_strconv_ParseUint_10_empty Tryd.lays287 w
open Go.RowKit in
theorem Tryd.internal_strconv_ParseUint_10_any (t : ByteArray) (hmax : t.size ≤ 9223372036854775806) (w : World) :
    Calls Tryd.prog 40 #[.string t, .int .i64 10, .int .i64 0] w fun e w' => e = .returned (Lib.uintTuple 61 (Lib.parseMag t.data.toList)) ∧ (w' = w ∨ w' = Lib.bytesWorld w 5 t) := Any.internal_strconv_ParseUint_10_any Tryd.lays287 t hmax w
def Tryd.laysC247_ren : Go.Shelf.Ren := ⟨fun | 247 => 29 | 287 => 40 | 321 => 53 | 322 => 54 | n => n, fun | 9 => 9 | 3 => 3 | 2 => 2 | 75 => 44 | 4 => 4 | 167 => 61 | 5 => 5 | 53 => 39 | 175 => 62 | 46 => 64 | 37 => 22 | 0 => 0 | 21 => 21 | 80 => 104 | n => n, fun | n => n⟩
theorem Tryd.laysC247 : Go.Proofs.LaysC.n247 Tryd.prog Tryd.laysC247_ren := {
  mixed := by kernel_rfl
  f247 := Tryd.func29.trans (congrArg some (by kernel_rfl))
  f287 := Tryd.func40.trans (congrArg some (by kernel_rfl))
  f321 := Tryd.func53.trans (congrArg some (by kernel_rfl))
  f322 := Tryd.func54.trans (congrArg some (by kernel_rfl))
  t0 := Tryd.underlying0
  a0 := Tryd.isAgg0
  z0 := Tryd.sizeOf0
  v0 := Tryd.zeroValue0
  t2 := Tryd.underlying2
  a2 := Tryd.isAgg2
  z2 := Tryd.sizeOf2
  v2 := Tryd.zeroValue2
  t3 := Tryd.underlying3
  a3 := Tryd.isAgg3
  z3 := Tryd.sizeOf3
  v3 := Tryd.zeroValue3
  t4 := Tryd.underlying4
  a4 := Tryd.isAgg4
  z4 := Tryd.sizeOf4
  v4 := Tryd.zeroValue4
  t5 := Tryd.underlying5
  a5 := Tryd.isAgg5
  z5 := Tryd.sizeOf5
  v5 := Tryd.zeroValue5
  t9 := Tryd.underlying9
  a9 := Tryd.isAgg9
  z9 := Tryd.sizeOf9
  v9 := Tryd.zeroValue9
  t21 := Tryd.underlying21
  a21 := Tryd.isAgg21
  z21 := Tryd.sizeOf21
  v21 := Tryd.zeroValue21
  t37 := Tryd.underlying22
  a37 := Tryd.isAgg22
  z37 := Tryd.sizeOf22
  v37 := Tryd.zeroValue22
  t46 := Tryd.underlying64
  a46 := Tryd.isAgg64
  z46 := Tryd.sizeOf64
  v46 := Tryd.zeroValue64
  t53 := Tryd.underlying39
  a53 := Tryd.isAgg39
  z53 := Tryd.sizeOf39
  v53 := Tryd.zeroValue39
  t75 := Tryd.underlying44
  a75 := Tryd.isAgg44
  z75 := Tryd.sizeOf44
  v75 := Tryd.zeroValue44
  t167 := Tryd.underlying61
  a167 := Tryd.isAgg61
  z167 := Tryd.sizeOf61
  v167 := Tryd.zeroValue61
  t175 := Tryd.underlying62
  a175 := Tryd.isAgg62
  z175 := Tryd.sizeOf62
  v175 := Tryd.zeroValue62
  t80 := Tryd.underlying104
  a80 := Tryd.isAgg104
  z80 := Tryd.sizeOf104
  v80 := Tryd.zeroValue104
  i0 := by kernel_rfl
  i2 := by kernel_rfl
  i3 := by kernel_rfl
  i4 := by kernel_rfl
  i5 := by kernel_rfl
  i9 := by kernel_rfl
  i21 := by kernel_rfl
  i37 := by kernel_rfl
  i46 := by kernel_rfl
  i53 := by kernel_rfl
  i75 := by kernel_rfl
  i80 := by kernel_rfl
  i167 := by kernel_rfl
  i175 := by kernel_rfl
  c0 := by kernel_rfl
  c2 := by kernel_rfl
  c3 := by kernel_rfl
  c4 := by kernel_rfl
  c5 := by kernel_rfl
  c9 := by kernel_rfl
  c21 := by kernel_rfl
  c37 := by kernel_rfl
  c46 := by kernel_rfl
  c53 := by kernel_rfl
  c75 := by kernel_rfl
  c80 := by kernel_rfl
  c167 := by kernel_rfl
  c175 := by kernel_rfl }
open Go.RowKit in
theorem Tryd.internal_strconv_ParseInt_10 (s : ByteArray) (hne : s.size ≠ 0) (hmax : s.size ≤ 9223372036854775806) (w : World) :
    Calls Tryd.prog 29 #[.string s, .int .i64 10, .int .i64 0] w fun e w' => e = .returned (Lib.intTuple 61 (Lib.atoiSat s.data.toList) (Lib.atoiAll s.data.toList)) ∧ (w' = w ∨ ∃ t, w' = Lib.bytesWorld w 5 t) := Any.internal_strconv_ParseInt_10 Tryd.laysC247 s hne hmax w
def Tryd.laysM280_ren : Go.Shelf.Ren := ⟨fun | 280 => 42 | 316 => 55 | n => n, fun | 9 => 9 | 168 => 65 | 75 => 44 | 210 => 75 | 3 => 3 | 4 => 4 | 37 => 22 | 0 => 0 | 127 => 85 | 80 => 104 | 5 => 5 | n => n, fun | 16 => 2 | n => n⟩
theorem Tryd.laysM280 : Go.Proofs.LaysM.n280 Tryd.prog Tryd.laysM280_ren := {
  mixed := by kernel_rfl
  f280 := Tryd.func42.trans (congrArg some (by kernel_rfl))
  f316 := Tryd.func55.trans (congrArg some (by kernel_rfl))
  t0 := Tryd.underlying0
  a0 := Tryd.isAgg0
  z0 := Tryd.sizeOf0
  v0 := Tryd.zeroValue0
  t3 := Tryd.underlying3
  a3 := Tryd.isAgg3
  z3 := Tryd.sizeOf3
  v3 := Tryd.zeroValue3
  t4 := Tryd.underlying4
  a4 := Tryd.isAgg4
  z4 := Tryd.sizeOf4
  v4 := Tryd.zeroValue4
  t9 := Tryd.underlying9
  a9 := Tryd.isAgg9
  z9 := Tryd.sizeOf9
  v9 := Tryd.zeroValue9
  t37 := Tryd.underlying22
  a37 := Tryd.isAgg22
  z37 := Tryd.sizeOf22
  v37 := Tryd.zeroValue22
  t75 := Tryd.underlying44
  a75 := Tryd.isAgg44
  z75 := Tryd.sizeOf44
  v75 := Tryd.zeroValue44
  t127 := Tryd.underlying85
  a127 := Tryd.isAgg85
  z127 := Tryd.sizeOf85
  v127 := Tryd.zeroValue85
  t168 := Tryd.underlying65
  a168 := Tryd.isAgg65
  z168 := Tryd.sizeOf65
  v168 := Tryd.zeroValue65
  t210 := Tryd.underlying75
  a210 := Tryd.isAgg75
  z210 := Tryd.sizeOf75
  v210 := Tryd.zeroValue75
  g16 := by kernel_rfl
  t5 := Tryd.underlying5
  a5 := Tryd.isAgg5
  z5 := Tryd.sizeOf5
  v5 := Tryd.zeroValue5
  t80 := Tryd.underlying104
  a80 := Tryd.isAgg104
  z80 := Tryd.sizeOf104
  v80 := Tryd.zeroValue104
  i0 := by kernel_rfl
  i3 := by kernel_rfl
  i4 := by kernel_rfl
  i5 := by kernel_rfl
  i9 := by kernel_rfl
  i37 := by kernel_rfl
  i75 := by kernel_rfl
  i80 := by kernel_rfl
  i127 := by kernel_rfl
  i168 := by kernel_rfl
  i210 := by kernel_rfl
  m16 := by kernel_rfl }
open Go.RowKit in
theorem Tryd.strconv_rangeError (fn s : ByteArray) (ev : Value) (w : World) (hlim : s.size ≤ 281474976710656) (hv : w.cell? ⟨2, 0, none⟩ = some ev) (hev : ev = .nilIface ∨ ∃ te pe, ev = .iface te pe) :
    Calls Tryd.prog 42 #[.string fn, .string s] w fun e w' => ∃ N, e = .returned (.pointer (some ⟨N, 0, none⟩)) ∧ w.heap.size ≤ N ∧ w'.heap[N]? = some (.cells #[.string fn, .string s, ev] 75 (0, 0)) ∧ Below w.heap.size w w' := Any.strconv_rangeError Tryd.laysM280 fn s ev w hlim hv hev
open Go.RowKit in
theorem Tryd.strconv_toError_range (fn s : ByteArray) (base bits : Int) (ev : Value) (w : World) (hlim : s.size ≤ 281474976710656) (hv : w.cell? ⟨2, 0, none⟩ = some ev) (hev : ev = .nilIface ∨ ∃ te pe, ev = .iface te pe) :
    Calls Tryd.prog 30 #[.string fn, .string s, .int .i64 base, .int .i64 bits, .iface 61 (.int .i64 1)] w fun e w' => ∃ N, e = .returned (.iface 65 (.pointer (some ⟨N, 0, none⟩))) ∧ w.heap.size ≤ N ∧ w'.heap[N]? = some (.cells #[.string fn, .string s, ev] 75 (0, 0)) ∧ Below w.heap.size w w' := Any.strconv_toError_range Tryd.laysC245 fn s base bits ev w hlim hv hev
open Go.RowKit in
theorem Tryd.internal_strconv_ParseUint_empty (base bits : Int) (w : World) :
    Calls Tryd.prog 40 #[.string ⟨#[]⟩, .int .i64 base, .int .i64 bits] w fun e w' => e = .returned (.tuple #[.int .u64 0, .iface 61 (.int .i64 2)]) ∧ w' = w := Any.internal_strconv_ParseUint_empty Tryd.lays287 base bits w
open Go.RowKit in
theorem Tryd.internal_strconv_ParseUint_10_b64 (t : ByteArray) (hne : t.size ≠ 0) (hmax : t.size ≤ 9223372036854775806) (w : World) :
    Calls Tryd.prog 40 #[.string t, .int .i64 10, .int .i64 64] w fun e w' => e = .returned (Lib.uintTuple 61 (Lib.parseUint10 0 t.data.toList)) ∧ w' = Lib.bytesWorld w 5 t := Any.internal_strconv_ParseUint_10_b64 Tryd.lays287 t hne hmax w
open Go.RowKit in
theorem Tryd.internal_strconv_ParseUint_10_b32 (t : ByteArray) (hne : t.size ≠ 0) (hmax : t.size ≤ 9223372036854775806) (w : World) :
    Calls Tryd.prog 40 #[.string t, .int .i64 10, .int .i64 32] w fun e w' => e = .returned (Lib.uintTupleM 61 4294967295 (Lib.parseUintM 4294967295 0 t.data.toList)) ∧ w' = Lib.bytesWorld w 5 t := Any.internal_strconv_ParseUint_10_b32 Tryd.lays287 t hne hmax w
open Go.RowKit in
theorem Tryd.internal_strconv_ParseUint_10_b16 (t : ByteArray) (hne : t.size ≠ 0) (hmax : t.size ≤ 9223372036854775806) (w : World) :
    Calls Tryd.prog 40 #[.string t, .int .i64 10, .int .i64 16] w fun e w' => e = .returned (Lib.uintTupleM 61 65535 (Lib.parseUintM 65535 0 t.data.toList)) ∧ w' = Lib.bytesWorld w 5 t := Any.internal_strconv_ParseUint_10_b16 Tryd.lays287 t hne hmax w
open Go.RowKit in
theorem Tryd.internal_strconv_ParseUint_10_b8 (t : ByteArray) (hne : t.size ≠ 0) (hmax : t.size ≤ 9223372036854775806) (w : World) :
    Calls Tryd.prog 40 #[.string t, .int .i64 10, .int .i64 8] w fun e w' => e = .returned (Lib.uintTupleM 61 255 (Lib.parseUintM 255 0 t.data.toList)) ∧ w' = Lib.bytesWorld w 5 t := Any.internal_strconv_ParseUint_10_b8 Tryd.lays287 t hne hmax w
open Go.RowKit in
theorem Tryd.internal_strconv_ParseUint_10_at0 (t : ByteArray) (hmax : t.size ≤ 9223372036854775806) (w : World) :
    Calls Tryd.prog 40 #[.string t, .int .i64 10, .int .i64 0] w fun e w' => e = .returned (Lib.uintTupleM 61 18446744073709551615 (Lib.parseUintB 64 t.data.toList)) ∧ (w' = w ∨ w' = Lib.bytesWorld w 5 t) := Any.internal_strconv_ParseUint_10_at0 Tryd.lays287 t hmax w
open Go.RowKit in
theorem Tryd.internal_strconv_ParseUint_10_at64 (t : ByteArray) (hmax : t.size ≤ 9223372036854775806) (w : World) :
    Calls Tryd.prog 40 #[.string t, .int .i64 10, .int .i64 64] w fun e w' => e = .returned (Lib.uintTupleM 61 18446744073709551615 (Lib.parseUintB 64 t.data.toList)) ∧ (w' = w ∨ w' = Lib.bytesWorld w 5 t) := Any.internal_strconv_ParseUint_10_at64 Tryd.lays287 t hmax w
open Go.RowKit in
theorem Tryd.internal_strconv_ParseUint_10_at32 (t : ByteArray) (hmax : t.size ≤ 9223372036854775806) (w : World) :
    Calls Tryd.prog 40 #[.string t, .int .i64 10, .int .i64 32] w fun e w' => e = .returned (Lib.uintTupleM 61 4294967295 (Lib.parseUintB 32 t.data.toList)) ∧ (w' = w ∨ w' = Lib.bytesWorld w 5 t) := Any.internal_strconv_ParseUint_10_at32 Tryd.lays287 t hmax w
open Go.RowKit in
theorem Tryd.internal_strconv_ParseUint_10_at16 (t : ByteArray) (hmax : t.size ≤ 9223372036854775806) (w : World) :
    Calls Tryd.prog 40 #[.string t, .int .i64 10, .int .i64 16] w fun e w' => e = .returned (Lib.uintTupleM 61 65535 (Lib.parseUintB 16 t.data.toList)) ∧ (w' = w ∨ w' = Lib.bytesWorld w 5 t) := Any.internal_strconv_ParseUint_10_at16 Tryd.lays287 t hmax w
open Go.RowKit in
theorem Tryd.internal_strconv_ParseUint_10_at8 (t : ByteArray) (hmax : t.size ≤ 9223372036854775806) (w : World) :
    Calls Tryd.prog 40 #[.string t, .int .i64 10, .int .i64 8] w fun e w' => e = .returned (Lib.uintTupleM 61 255 (Lib.parseUintB 8 t.data.toList)) ∧ (w' = w ∨ w' = Lib.bytesWorld w 5 t) := Any.internal_strconv_ParseUint_10_at8 Tryd.lays287 t hmax w
open Go.RowKit in
theorem Tryd.internal_strconv_ParseInt_10_at64 (s : ByteArray) (hne : s.size ≠ 0) (hmax : s.size ≤ 9223372036854775806) (w : World) :
    Calls Tryd.prog 29 #[.string s, .int .i64 10, .int .i64 64] w fun e w' => e = .returned (Lib.intTuple 61 (Lib.intSat 64 s.data.toList) (Lib.parseIntB 64 s.data.toList)) ∧ (w' = w ∨ ∃ t, w' = Lib.bytesWorld w 5 t) := Any.internal_strconv_ParseInt_10_at64 Tryd.laysC247 s hne hmax w
open Go.RowKit in
theorem Tryd.internal_strconv_ParseInt_10_at32 (s : ByteArray) (hne : s.size ≠ 0) (hmax : s.size ≤ 9223372036854775806) (w : World) :
    Calls Tryd.prog 29 #[.string s, .int .i64 10, .int .i64 32] w fun e w' => e = .returned (Lib.intTuple 61 (Lib.intSat 32 s.data.toList) (Lib.parseIntB 32 s.data.toList)) ∧ (w' = w ∨ ∃ t, w' = Lib.bytesWorld w 5 t) := Any.internal_strconv_ParseInt_10_at32 Tryd.laysC247 s hne hmax w
open Go.RowKit in
theorem Tryd.internal_strconv_ParseInt_10_at16 (s : ByteArray) (hne : s.size ≠ 0) (hmax : s.size ≤ 9223372036854775806) (w : World) :
    Calls Tryd.prog 29 #[.string s, .int .i64 10, .int .i64 16] w fun e w' => e = .returned (Lib.intTuple 61 (Lib.intSat 16 s.data.toList) (Lib.parseIntB 16 s.data.toList)) ∧ (w' = w ∨ ∃ t, w' = Lib.bytesWorld w 5 t) := Any.internal_strconv_ParseInt_10_at16 Tryd.laysC247 s hne hmax w
open Go.RowKit in
theorem Tryd.internal_strconv_ParseInt_10_at8 (s : ByteArray) (hne : s.size ≠ 0) (hmax : s.size ≤ 9223372036854775806) (w : World) :
    Calls Tryd.prog 29 #[.string s, .int .i64 10, .int .i64 8] w fun e w' => e = .returned (Lib.intTuple 61 (Lib.intSat 8 s.data.toList) (Lib.parseIntB 8 s.data.toList)) ∧ (w' = w ∨ ∃ t, w' = Lib.bytesWorld w 5 t) := Any.internal_strconv_ParseInt_10_at8 Tryd.laysC247 s hne hmax w
open Go.RowKit in
theorem Tryd.internal_strconv_ParseInt_10_all0 (s : ByteArray) (hmax : s.size ≤ 9223372036854775806) (w : World) :
    Calls Tryd.prog 29 #[.string s, .int .i64 10, .int .i64 0] w fun e w' => e = .returned (Lib.intTuple 61 (Lib.intSat 64 s.data.toList) (Lib.parseIntB 64 s.data.toList)) ∧ (w' = w ∨ ∃ t, w' = Lib.bytesWorld w 5 t) := Any.internal_strconv_ParseInt_10_all0 Tryd.laysC247 s hmax w
open Go.RowKit in
theorem Tryd.internal_strconv_ParseInt_10_all64 (s : ByteArray) (hmax : s.size ≤ 9223372036854775806) (w : World) :
    Calls Tryd.prog 29 #[.string s, .int .i64 10, .int .i64 64] w fun e w' => e = .returned (Lib.intTuple 61 (Lib.intSat 64 s.data.toList) (Lib.parseIntB 64 s.data.toList)) ∧ (w' = w ∨ ∃ t, w' = Lib.bytesWorld w 5 t) := Any.internal_strconv_ParseInt_10_all64 Tryd.laysC247 s hmax w
open Go.RowKit in
theorem Tryd.internal_strconv_ParseInt_10_all32 (s : ByteArray) (hmax : s.size ≤ 9223372036854775806) (w : World) :
    Calls Tryd.prog 29 #[.string s, .int .i64 10, .int .i64 32] w fun e w' => e = .returned (Lib.intTuple 61 (Lib.intSat 32 s.data.toList) (Lib.parseIntB 32 s.data.toList)) ∧ (w' = w ∨ ∃ t, w' = Lib.bytesWorld w 5 t) := Any.internal_strconv_ParseInt_10_all32 Tryd.laysC247 s hmax w
open Go.RowKit in
theorem Tryd.internal_strconv_ParseInt_10_all16 (s : ByteArray) (hmax : s.size ≤ 9223372036854775806) (w : World) :
    Calls Tryd.prog 29 #[.string s, .int .i64 10, .int .i64 16] w fun e w' => e = .returned (Lib.intTuple 61 (Lib.intSat 16 s.data.toList) (Lib.parseIntB 16 s.data.toList)) ∧ (w' = w ∨ ∃ t, w' = Lib.bytesWorld w 5 t) := Any.internal_strconv_ParseInt_10_all16 Tryd.laysC247 s hmax w
open Go.RowKit in
theorem Tryd.internal_strconv_ParseInt_10_all8 (s : ByteArray) (hmax : s.size ≤ 9223372036854775806) (w : World) :
    Calls Tryd.prog 29 #[.string s, .int .i64 10, .int .i64 8] w fun e w' => e = .returned (Lib.intTuple 61 (Lib.intSat 8 s.data.toList) (Lib.parseIntB 8 s.data.toList)) ∧ (w' = w ∨ ∃ t, w' = Lib.bytesWorld w 5 t) := Any.internal_strconv_ParseInt_10_all8 Tryd.laysC247 s hmax w
def Tryd.laysC174_ren : Go.Shelf.Ren := ⟨fun | 174 => 22 | 247 => 29 | 245 => 30 | 287 => 40 | 279 => 41 | 280 => 42 | 281 => 43 | 282 => 44 | 321 => 53 | 322 => 54 | 316 => 55 | 171 => 57 | 205 => 56 | 243 => 61 | 246 => 62 | 283 => 63 | 284 => 64 | 285 => 65 | 286 => 66 | 129 => 68 | 317 => 67 | 318 => 69 | 319 => 70 | 320 => 71 | 337 => 72 | 338 => 73 | n => n, fun | 9 => 9 | 3 => 3 | 2 => 2 | 75 => 44 | 85 => 45 | 4 => 4 | 167 => 61 | 5 => 5 | 53 => 39 | 175 => 62 | 46 => 64 | 168 => 65 | 37 => 22 | 0 => 0 | 210 => 75 | 21 => 21 | 127 => 85 | 145 => 88 | 143 => 86 | 171 => 40 | 173 => 92 | 212 => 95 | 51 => 78 | 20 => 20 | 213 => 96 | 232 => 100 | 233 => 101 | 80 => 104 | n => n, fun | 15 => 1 | 16 => 2 | 17 => 5 | 18 => 6 | 19 => 7 | n => n⟩
theorem Tryd.laysC174 : Go.Proofs.LaysC.n174 Tryd.prog Tryd.laysC174_ren := {
  mixed := by kernel_rfl
  f129 := Tryd.func68.trans (congrArg some (by kernel_rfl))
  f171 := Tryd.func57.trans (congrArg some (by kernel_rfl))
  f174 := Tryd.func22.trans (congrArg some (by kernel_rfl))
  f205 := Tryd.func56.trans (congrArg some (by kernel_rfl))
  f243 := Tryd.func61.trans (congrArg some (by kernel_rfl))
  f245 := Tryd.func30.trans (congrArg some (by kernel_rfl))
  f246 := Tryd.func62.trans (congrArg some (by kernel_rfl))
  f247 := Tryd.func29.trans (congrArg some (by kernel_rfl))
  f279 := Tryd.func41.trans (congrArg some (by kernel_rfl))
  f280 := Tryd.func42.trans (congrArg some (by kernel_rfl))
  f281 := Tryd.func43.trans (congrArg some (by kernel_rfl))
  f282 := Tryd.func44.trans (congrArg some (by kernel_rfl))
  f283 := Tryd.func63.trans (congrArg some (by kernel_rfl))
  f284 := Tryd.func64.trans (congrArg some (by kernel_rfl))
  f285 := Tryd.func65.trans (congrArg some (by kernel_rfl))
  f286 := Tryd.func66.trans (congrArg some (by kernel_rfl))
  f287 := Tryd.func40.trans (congrArg some (by kernel_rfl))
  f316 := Tryd.func55.trans (congrArg some (by kernel_rfl))
  f317 := Tryd.func67.trans (congrArg some (by kernel_rfl))
  f318 := Tryd.func69.trans (congrArg some (by kernel_rfl))
  f319 := Tryd.func70.trans (congrArg some (by kernel_rfl))
  f320 := Tryd.func71.trans (congrArg some (by kernel_rfl))
  f321 := Tryd.func53.trans (congrArg some (by kernel_rfl))
  f322 := Tryd.func54.trans (congrArg some (by kernel_rfl))
  f337 := Tryd.func72.trans (congrArg some (by kernel_rfl))
  f338 := Tryd.func73.trans (congrArg some (by kernel_rfl))
  t0 := Tryd.underlying0
  a0 := Tryd.isAgg0
  z0 := Tryd.sizeOf0
  v0 := Tryd.zeroValue0
  t2 := Tryd.underlying2
  a2 := Tryd.isAgg2
  z2 := Tryd.sizeOf2
  v2 := Tryd.zeroValue2
  t3 := Tryd.underlying3
  a3 := Tryd.isAgg3
  z3 := Tryd.sizeOf3
  v3 := Tryd.zeroValue3
  t4 := Tryd.underlying4
  a4 := Tryd.isAgg4
  z4 := Tryd.sizeOf4
  v4 := Tryd.zeroValue4
  t5 := Tryd.underlying5
  a5 := Tryd.isAgg5
  z5 := Tryd.sizeOf5
  v5 := Tryd.zeroValue5
  t9 := Tryd.underlying9
  a9 := Tryd.isAgg9
  z9 := Tryd.sizeOf9
  v9 := Tryd.zeroValue9
  t20 := Tryd.underlying20
  a20 := Tryd.isAgg20
  z20 := Tryd.sizeOf20
  v20 := Tryd.zeroValue20
  t21 := Tryd.underlying21
  a21 := Tryd.isAgg21
  z21 := Tryd.sizeOf21
  v21 := Tryd.zeroValue21
  t37 := Tryd.underlying22
  a37 := Tryd.isAgg22
  z37 := Tryd.sizeOf22
  v37 := Tryd.zeroValue22
  t46 := Tryd.underlying64
  a46 := Tryd.isAgg64
  z46 := Tryd.sizeOf64
  v46 := Tryd.zeroValue64
  t51 := Tryd.underlying78
  a51 := Tryd.isAgg78
  z51 := Tryd.sizeOf78
  v51 := Tryd.zeroValue78
  t53 := Tryd.underlying39
  a53 := Tryd.isAgg39
  z53 := Tryd.sizeOf39
  v53 := Tryd.zeroValue39
  t75 := Tryd.underlying44
  a75 := Tryd.isAgg44
  z75 := Tryd.sizeOf44
  v75 := Tryd.zeroValue44
  t85 := Tryd.underlying45
  a85 := Tryd.isAgg45
  z85 := Tryd.sizeOf45
  v85 := Tryd.zeroValue45
  t127 := Tryd.underlying85
  a127 := Tryd.isAgg85
  z127 := Tryd.sizeOf85
  v127 := Tryd.zeroValue85
  t143 := Tryd.underlying86
  a143 := Tryd.isAgg86
  z143 := Tryd.sizeOf86
  v143 := Tryd.zeroValue86
  t145 := Tryd.underlying88
  a145 := Tryd.isAgg88
  z145 := Tryd.sizeOf88
  v145 := Tryd.zeroValue88
  t167 := Tryd.underlying61
  a167 := Tryd.isAgg61
  z167 := Tryd.sizeOf61
  v167 := Tryd.zeroValue61
  t168 := Tryd.underlying65
  a168 := Tryd.isAgg65
  z168 := Tryd.sizeOf65
  v168 := Tryd.zeroValue65
  t171 := Tryd.underlying40
  a171 := Tryd.isAgg40
  z171 := Tryd.sizeOf40
  v171 := Tryd.zeroValue40
  t173 := Tryd.underlying92
  a173 := Tryd.isAgg92
  z173 := Tryd.sizeOf92
  v173 := Tryd.zeroValue92
  t175 := Tryd.underlying62
  a175 := Tryd.isAgg62
  z175 := Tryd.sizeOf62
  v175 := Tryd.zeroValue62
  t210 := Tryd.underlying75
  a210 := Tryd.isAgg75
  z210 := Tryd.sizeOf75
  v210 := Tryd.zeroValue75
  t212 := Tryd.underlying95
  a212 := Tryd.isAgg95
  z212 := Tryd.sizeOf95
  v212 := Tryd.zeroValue95
  t213 := Tryd.underlying96
  a213 := Tryd.isAgg96
  z213 := Tryd.sizeOf96
  t232 := Tryd.underlying100
  a232 := Tryd.isAgg100
  z232 := Tryd.sizeOf100
  v232 := Tryd.zeroValue100
  t233 := Tryd.underlying101
  a233 := Tryd.isAgg101
  z233 := Tryd.sizeOf101
  v233 := Tryd.zeroValue101
  g15 := by kernel_rfl
  g16 := by kernel_rfl
  g17 := by kernel_rfl
  g18 := by kernel_rfl
  g19 := by kernel_rfl
  t80 := Tryd.underlying104
  a80 := Tryd.isAgg104
  z80 := Tryd.sizeOf104
  v80 := Tryd.zeroValue104
  i0 := by kernel_rfl
  i2 := by kernel_rfl
  i3 := by kernel_rfl
  i4 := by kernel_rfl
  i5 := by kernel_rfl
  i9 := by kernel_rfl
  i20 := by kernel_rfl
  i21 := by kernel_rfl
  i37 := by kernel_rfl
  i46 := by kernel_rfl
  i51 := by kernel_rfl
  i53 := by kernel_rfl
  i75 := by kernel_rfl
  i80 := by kernel_rfl
  i85 := by kernel_rfl
  i127 := by kernel_rfl
  i143 := by kernel_rfl
  i145 := by kernel_rfl
  i167 := by kernel_rfl
  i168 := by kernel_rfl
  i171 := by kernel_rfl
  i173 := by kernel_rfl
  i175 := by kernel_rfl
  i210 := by kernel_rfl
  i212 := by kernel_rfl
  i232 := by kernel_rfl
  i233 := by kernel_rfl
  m15 := by kernel_rfl
  m16 := by kernel_rfl
  m17 := by kernel_rfl
  m18 := by kernel_rfl
  m19 := by kernel_rfl
  c0 := by kernel_rfl
  c2 := by kernel_rfl
  c3 := by kernel_rfl
  c4 := by kernel_rfl
  c5 := by kernel_rfl
  c9 := by kernel_rfl
  c20 := by kernel_rfl
  c21 := by kernel_rfl
  c37 := by kernel_rfl
  c46 := by kernel_rfl
  c51 := by kernel_rfl
  c53 := by kernel_rfl
  c75 := by kernel_rfl
  c80 := by kernel_rfl
  c85 := by kernel_rfl
  c127 := by kernel_rfl
  c143 := by kernel_rfl
  c145 := by kernel_rfl
  c167 := by kernel_rfl
  c168 := by kernel_rfl
  c171 := by kernel_rfl
  c173 := by kernel_rfl
  c175 := by kernel_rfl
  c210 := by kernel_rfl
  c212 := by kernel_rfl
  c213 := by kernel_rfl
  c232 := by kernel_rfl
  c233 := by kernel_rfl }
open Go.RowKit in
theorem Tryd.strconv_ParseInt_10_at0_ok (s : ByteArray) (hmax : s.size ≤ 9223372036854775806) (v : Int) (h : Lib.parseIntB 64 s.data.toList = .ok v) (w : World) :
    Calls Tryd.prog 22 #[.string s, .int .i64 10, .int .i64 0] w fun e w' => e = .returned (.tuple #[.int .i64 v, .nilIface]) ∧ (w' = w ∨ ∃ t, w' = Lib.bytesWorld w 5 t) := Any.strconv_ParseInt_10_at0_ok Tryd.laysC174 s hmax v h w
open Go.RowKit in
theorem Tryd.strconv_ParseInt_10_at0_syntax (s : ByteArray) (hlim : s.size ≤ 281474976710656) (h : Lib.parseIntB 64 s.data.toList = .«syntax») (ev : Value) (w : World) (hv : w.cell? ⟨1, 0, none⟩ = some ev) (hev : ev = .nilIface ∨ ∃ te pe, ev = .iface te pe) :
    Calls Tryd.prog 22 #[.string s, .int .i64 10, .int .i64 0] w fun e w' => ∃ N, e = .returned (.tuple #[.int .i64 (0), .iface 65 (.pointer (some ⟨N, 0, none⟩))]) ∧ w.heap.size ≤ N ∧ w'.heap[N]? = some (.cells #[.string ⟨#[80, 97, 114, 115, 101, 73, 110, 116]⟩, .string s, ev] 75 (0, 0)) ∧ Below w.heap.size w w' := Any.strconv_ParseInt_10_at0_syntax Tryd.laysC174 s hlim h ev w hv hev
open Go.RowKit in
theorem Tryd.strconv_ParseInt_10_at0_range (s : ByteArray) (hlim : s.size ≤ 281474976710656) (h : Lib.parseIntB 64 s.data.toList = .range) (ev : Value) (w : World) (hv : w.cell? ⟨2, 0, none⟩ = some ev) (hev : ev = .nilIface ∨ ∃ te pe, ev = .iface te pe) :
    Calls Tryd.prog 22 #[.string s, .int .i64 10, .int .i64 0] w fun e w' => ∃ N, e = .returned (.tuple #[.int .i64 (Lib.intSat 64 s.data.toList), .iface 65 (.pointer (some ⟨N, 0, none⟩))]) ∧ w.heap.size ≤ N ∧ w'.heap[N]? = some (.cells #[.string ⟨#[80, 97, 114, 115, 101, 73, 110, 116]⟩, .string s, ev] 75 (0, 0)) ∧ Below w.heap.size w w' := Any.strconv_ParseInt_10_at0_range Tryd.laysC174 s hlim h ev w hv hev
open Go.RowKit in
theorem Tryd.strconv_ParseInt_10_at64_ok (s : ByteArray) (hmax : s.size ≤ 9223372036854775806) (v : Int) (h : Lib.parseIntB 64 s.data.toList = .ok v) (w : World) :
    Calls Tryd.prog 22 #[.string s, .int .i64 10, .int .i64 64] w fun e w' => e = .returned (.tuple #[.int .i64 v, .nilIface]) ∧ (w' = w ∨ ∃ t, w' = Lib.bytesWorld w 5 t) := Any.strconv_ParseInt_10_at64_ok Tryd.laysC174 s hmax v h w
open Go.RowKit in
theorem Tryd.strconv_ParseInt_10_at64_syntax (s : ByteArray) (hlim : s.size ≤ 281474976710656) (h : Lib.parseIntB 64 s.data.toList = .«syntax») (ev : Value) (w : World) (hv : w.cell? ⟨1, 0, none⟩ = some ev) (hev : ev = .nilIface ∨ ∃ te pe, ev = .iface te pe) :
    Calls Tryd.prog 22 #[.string s, .int .i64 10, .int .i64 64] w fun e w' => ∃ N, e = .returned (.tuple #[.int .i64 (0), .iface 65 (.pointer (some ⟨N, 0, none⟩))]) ∧ w.heap.size ≤ N ∧ w'.heap[N]? = some (.cells #[.string ⟨#[80, 97, 114, 115, 101, 73, 110, 116]⟩, .string s, ev] 75 (0, 0)) ∧ Below w.heap.size w w' := Any.strconv_ParseInt_10_at64_syntax Tryd.laysC174 s hlim h ev w hv hev
open Go.RowKit in
theorem Tryd.strconv_ParseInt_10_at64_range (s : ByteArray) (hlim : s.size ≤ 281474976710656) (h : Lib.parseIntB 64 s.data.toList = .range) (ev : Value) (w : World) (hv : w.cell? ⟨2, 0, none⟩ = some ev) (hev : ev = .nilIface ∨ ∃ te pe, ev = .iface te pe) :
    Calls Tryd.prog 22 #[.string s, .int .i64 10, .int .i64 64] w fun e w' => ∃ N, e = .returned (.tuple #[.int .i64 (Lib.intSat 64 s.data.toList), .iface 65 (.pointer (some ⟨N, 0, none⟩))]) ∧ w.heap.size ≤ N ∧ w'.heap[N]? = some (.cells #[.string ⟨#[80, 97, 114, 115, 101, 73, 110, 116]⟩, .string s, ev] 75 (0, 0)) ∧ Below w.heap.size w w' := Any.strconv_ParseInt_10_at64_range Tryd.laysC174 s hlim h ev w hv hev
open Go.RowKit in
theorem Tryd.strconv_ParseInt_10_at32_ok (s : ByteArray) (hmax : s.size ≤ 9223372036854775806) (v : Int) (h : Lib.parseIntB 32 s.data.toList = .ok v) (w : World) :
    Calls Tryd.prog 22 #[.string s, .int .i64 10, .int .i64 32] w fun e w' => e = .returned (.tuple #[.int .i64 v, .nilIface]) ∧ (w' = w ∨ ∃ t, w' = Lib.bytesWorld w 5 t) := Any.strconv_ParseInt_10_at32_ok Tryd.laysC174 s hmax v h w
open Go.RowKit in
theorem Tryd.strconv_ParseInt_10_at32_syntax (s : ByteArray) (hlim : s.size ≤ 281474976710656) (h : Lib.parseIntB 32 s.data.toList = .«syntax») (ev : Value) (w : World) (hv : w.cell? ⟨1, 0, none⟩ = some ev) (hev : ev = .nilIface ∨ ∃ te pe, ev = .iface te pe) :
    Calls Tryd.prog 22 #[.string s, .int .i64 10, .int .i64 32] w fun e w' => ∃ N, e = .returned (.tuple #[.int .i64 (0), .iface 65 (.pointer (some ⟨N, 0, none⟩))]) ∧ w.heap.size ≤ N ∧ w'.heap[N]? = some (.cells #[.string ⟨#[80, 97, 114, 115, 101, 73, 110, 116]⟩, .string s, ev] 75 (0, 0)) ∧ Below w.heap.size w w' := Any.strconv_ParseInt_10_at32_syntax Tryd.laysC174 s hlim h ev w hv hev
open Go.RowKit in
theorem Tryd.strconv_ParseInt_10_at32_range (s : ByteArray) (hlim : s.size ≤ 281474976710656) (h : Lib.parseIntB 32 s.data.toList = .range) (ev : Value) (w : World) (hv : w.cell? ⟨2, 0, none⟩ = some ev) (hev : ev = .nilIface ∨ ∃ te pe, ev = .iface te pe) :
    Calls Tryd.prog 22 #[.string s, .int .i64 10, .int .i64 32] w fun e w' => ∃ N, e = .returned (.tuple #[.int .i64 (Lib.intSat 32 s.data.toList), .iface 65 (.pointer (some ⟨N, 0, none⟩))]) ∧ w.heap.size ≤ N ∧ w'.heap[N]? = some (.cells #[.string ⟨#[80, 97, 114, 115, 101, 73, 110, 116]⟩, .string s, ev] 75 (0, 0)) ∧ Below w.heap.size w w' := Any.strconv_ParseInt_10_at32_range Tryd.laysC174 s hlim h ev w hv hev
open Go.RowKit in
theorem Tryd.strconv_ParseInt_10_at16_ok (s : ByteArray) (hmax : s.size ≤ 9223372036854775806) (v : Int) (h : Lib.parseIntB 16 s.data.toList = .ok v) (w : World) :
    Calls Tryd.prog 22 #[.string s, .int .i64 10, .int .i64 16] w fun e w' => e = .returned (.tuple #[.int .i64 v, .nilIface]) ∧ (w' = w ∨ ∃ t, w' = Lib.bytesWorld w 5 t) := Any.strconv_ParseInt_10_at16_ok Tryd.laysC174 s hmax v h w
open Go.RowKit in
theorem Tryd.strconv_ParseInt_10_at16_syntax (s : ByteArray) (hlim : s.size ≤ 281474976710656) (h : Lib.parseIntB 16 s.data.toList = .«syntax») (ev : Value) (w : World) (hv : w.cell? ⟨1, 0, none⟩ = some ev) (hev : ev = .nilIface ∨ ∃ te pe, ev = .iface te pe) :
    Calls Tryd.prog 22 #[.string s, .int .i64 10, .int .i64 16] w fun e w' => ∃ N, e = .returned (.tuple #[.int .i64 (0), .iface 65 (.pointer (some ⟨N, 0, none⟩))]) ∧ w.heap.size ≤ N ∧ w'.heap[N]? = some (.cells #[.string ⟨#[80, 97, 114, 115, 101, 73, 110, 116]⟩, .string s, ev] 75 (0, 0)) ∧ Below w.heap.size w w' := Any.strconv_ParseInt_10_at16_syntax Tryd.laysC174 s hlim h ev w hv hev
open Go.RowKit in
theorem Tryd.strconv_ParseInt_10_at16_range (s : ByteArray) (hlim : s.size ≤ 281474976710656) (h : Lib.parseIntB 16 s.data.toList = .range) (ev : Value) (w : World) (hv : w.cell? ⟨2, 0, none⟩ = some ev) (hev : ev = .nilIface ∨ ∃ te pe, ev = .iface te pe) :
    Calls Tryd.prog 22 #[.string s, .int .i64 10, .int .i64 16] w fun e w' => ∃ N, e = .returned (.tuple #[.int .i64 (Lib.intSat 16 s.data.toList), .iface 65 (.pointer (some ⟨N, 0, none⟩))]) ∧ w.heap.size ≤ N ∧ w'.heap[N]? = some (.cells #[.string ⟨#[80, 97, 114, 115, 101, 73, 110, 116]⟩, .string s, ev] 75 (0, 0)) ∧ Below w.heap.size w w' := Any.strconv_ParseInt_10_at16_range Tryd.laysC174 s hlim h ev w hv hev
open Go.RowKit in
theorem Tryd.strconv_ParseInt_10_at8_ok (s : ByteArray) (hmax : s.size ≤ 9223372036854775806) (v : Int) (h : Lib.parseIntB 8 s.data.toList = .ok v) (w : World) :
    Calls Tryd.prog 22 #[.string s, .int .i64 10, .int .i64 8] w fun e w' => e = .returned (.tuple #[.int .i64 v, .nilIface]) ∧ (w' = w ∨ ∃ t, w' = Lib.bytesWorld w 5 t) := Any.strconv_ParseInt_10_at8_ok Tryd.laysC174 s hmax v h w
open Go.RowKit in
theorem Tryd.strconv_ParseInt_10_at8_syntax (s : ByteArray) (hlim : s.size ≤ 281474976710656) (h : Lib.parseIntB 8 s.data.toList = .«syntax») (ev : Value) (w : World) (hv : w.cell? ⟨1, 0, none⟩ = some ev) (hev : ev = .nilIface ∨ ∃ te pe, ev = .iface te pe) :
    Calls Tryd.prog 22 #[.string s, .int .i64 10, .int .i64 8] w fun e w' => ∃ N, e = .returned (.tuple #[.int .i64 (0), .iface 65 (.pointer (some ⟨N, 0, none⟩))]) ∧ w.heap.size ≤ N ∧ w'.heap[N]? = some (.cells #[.string ⟨#[80, 97, 114, 115, 101, 73, 110, 116]⟩, .string s, ev] 75 (0, 0)) ∧ Below w.heap.size w w' := Any.strconv_ParseInt_10_at8_syntax Tryd.laysC174 s hlim h ev w hv hev
open Go.RowKit in
theorem Tryd.strconv_ParseInt_10_at8_range (s : ByteArray) (hlim : s.size ≤ 281474976710656) (h : Lib.parseIntB 8 s.data.toList = .range) (ev : Value) (w : World) (hv : w.cell? ⟨2, 0, none⟩ = some ev) (hev : ev = .nilIface ∨ ∃ te pe, ev = .iface te pe) :
    Calls Tryd.prog 22 #[.string s, .int .i64 10, .int .i64 8] w fun e w' => ∃ N, e = .returned (.tuple #[.int .i64 (Lib.intSat 8 s.data.toList), .iface 65 (.pointer (some ⟨N, 0, none⟩))]) ∧ w.heap.size ≤ N ∧ w'.heap[N]? = some (.cells #[.string ⟨#[80, 97, 114, 115, 101, 73, 110, 116]⟩, .string s, ev] 75 (0, 0)) ∧ Below w.heap.size w w' := Any.strconv_ParseInt_10_at8_range Tryd.laysC174 s hlim h ev w hv hev
open Go.RowKit in
theorem Tryd.strconv_ParseInt_10_at0_syntax_var (s : ByteArray) (hlim : s.size ≤ 281474976710656) (h : Lib.parseIntB 64 s.data.toList = .«syntax») (tp : TypeId) (p : Value) (w : World) (hvar : w.var? Tryd.prog "strconv.ErrSyntax" = some #[.iface tp p]) :
    Calls Tryd.prog 22 #[.string s, .int .i64 10, .int .i64 0] w fun e w' => ∃ N, e = .returned (.tuple #[.int .i64 (0), .iface 65 (.pointer (some ⟨N, 0, none⟩))]) ∧ w.heap.size ≤ N ∧ w'.heap[N]? = some (.cells #[.string ⟨#[80, 97, 114, 115, 101, 73, 110, 116]⟩, .string s, .iface tp p] 75 (0, 0)) ∧ Below w.heap.size w w' := Any.strconv_ParseInt_10_at0_syntax_var Tryd.laysC174 s hlim h tp p w hvar
open Go.RowKit in
theorem Tryd.strconv_ParseInt_10_at0_range_var (s : ByteArray) (hlim : s.size ≤ 281474976710656) (h : Lib.parseIntB 64 s.data.toList = .range) (tp : TypeId) (p : Value) (w : World) (hvar : w.var? Tryd.prog "strconv.ErrRange" = some #[.iface tp p]) :
    Calls Tryd.prog 22 #[.string s, .int .i64 10, .int .i64 0] w fun e w' => ∃ N, e = .returned (.tuple #[.int .i64 (Lib.intSat 64 s.data.toList), .iface 65 (.pointer (some ⟨N, 0, none⟩))]) ∧ w.heap.size ≤ N ∧ w'.heap[N]? = some (.cells #[.string ⟨#[80, 97, 114, 115, 101, 73, 110, 116]⟩, .string s, .iface tp p] 75 (0, 0)) ∧ Below w.heap.size w w' := Any.strconv_ParseInt_10_at0_range_var Tryd.laysC174 s hlim h tp p w hvar
open Go.RowKit in
theorem Tryd.strconv_ParseInt_10_at64_syntax_var (s : ByteArray) (hlim : s.size ≤ 281474976710656) (h : Lib.parseIntB 64 s.data.toList = .«syntax») (tp : TypeId) (p : Value) (w : World) (hvar : w.var? Tryd.prog "strconv.ErrSyntax" = some #[.iface tp p]) :
    Calls Tryd.prog 22 #[.string s, .int .i64 10, .int .i64 64] w fun e w' => ∃ N, e = .returned (.tuple #[.int .i64 (0), .iface 65 (.pointer (some ⟨N, 0, none⟩))]) ∧ w.heap.size ≤ N ∧ w'.heap[N]? = some (.cells #[.string ⟨#[80, 97, 114, 115, 101, 73, 110, 116]⟩, .string s, .iface tp p] 75 (0, 0)) ∧ Below w.heap.size w w' := Any.strconv_ParseInt_10_at64_syntax_var Tryd.laysC174 s hlim h tp p w hvar
open Go.RowKit in
theorem Tryd.strconv_ParseInt_10_at64_range_var (s : ByteArray) (hlim : s.size ≤ 281474976710656) (h : Lib.parseIntB 64 s.data.toList = .range) (tp : TypeId) (p : Value) (w : World) (hvar : w.var? Tryd.prog "strconv.ErrRange" = some #[.iface tp p]) :
    Calls Tryd.prog 22 #[.string s, .int .i64 10, .int .i64 64] w fun e w' => ∃ N, e = .returned (.tuple #[.int .i64 (Lib.intSat 64 s.data.toList), .iface 65 (.pointer (some ⟨N, 0, none⟩))]) ∧ w.heap.size ≤ N ∧ w'.heap[N]? = some (.cells #[.string ⟨#[80, 97, 114, 115, 101, 73, 110, 116]⟩, .string s, .iface tp p] 75 (0, 0)) ∧ Below w.heap.size w w' := Any.strconv_ParseInt_10_at64_range_var Tryd.laysC174 s hlim h tp p w hvar
open Go.RowKit in
theorem Tryd.strconv_ParseInt_10_at32_syntax_var (s : ByteArray) (hlim : s.size ≤ 281474976710656) (h : Lib.parseIntB 32 s.data.toList = .«syntax») (tp : TypeId) (p : Value) (w : World) (hvar : w.var? Tryd.prog "strconv.ErrSyntax" = some #[.iface tp p]) :
    Calls Tryd.prog 22 #[.string s, .int .i64 10, .int .i64 32] w fun e w' => ∃ N, e = .returned (.tuple #[.int .i64 (0), .iface 65 (.pointer (some ⟨N, 0, none⟩))]) ∧ w.heap.size ≤ N ∧ w'.heap[N]? = some (.cells #[.string ⟨#[80, 97, 114, 115, 101, 73, 110, 116]⟩, .string s, .iface tp p] 75 (0, 0)) ∧ Below w.heap.size w w' := Any.strconv_ParseInt_10_at32_syntax_var Tryd.laysC174 s hlim h tp p w hvar
open Go.RowKit in
theorem Tryd.strconv_ParseInt_10_at32_range_var (s : ByteArray) (hlim : s.size ≤ 281474976710656) (h : Lib.parseIntB 32 s.data.toList = .range) (tp : TypeId) (p : Value) (w : World) (hvar : w.var? Tryd.prog "strconv.ErrRange" = some #[.iface tp p]) :
    Calls Tryd.prog 22 #[.string s, .int .i64 10, .int .i64 32] w fun e w' => ∃ N, e = .returned (.tuple #[.int .i64 (Lib.intSat 32 s.data.toList), .iface 65 (.pointer (some ⟨N, 0, none⟩))]) ∧ w.heap.size ≤ N ∧ w'.heap[N]? = some (.cells #[.string ⟨#[80, 97, 114, 115, 101, 73, 110, 116]⟩, .string s, .iface tp p] 75 (0, 0)) ∧ Below w.heap.size w w' := Any.strconv_ParseInt_10_at32_range_var Tryd.laysC174 s hlim h tp p w hvar
open Go.RowKit in
theorem Tryd.strconv_ParseInt_10_at16_syntax_var (s : ByteArray) (hlim : s.size ≤ 281474976710656) (h : Lib.parseIntB 16 s.data.toList = .«syntax») (tp : TypeId) (p : Value) (w : World) (hvar : w.var? Tryd.prog "strconv.ErrSyntax" = some #[.iface tp p]) :
    Calls Tryd.prog 22 #[.string s, .int .i64 10, .int .i64 16] w fun e w' => ∃ N, e = .returned (.tuple #[.int .i64 (0), .iface 65 (.pointer (some ⟨N, 0, none⟩))]) ∧ w.heap.size ≤ N ∧ w'.heap[N]? = some (.cells #[.string ⟨#[80, 97, 114, 115, 101, 73, 110, 116]⟩, .string s, .iface tp p] 75 (0, 0)) ∧ Below w.heap.size w w' := Any.strconv_ParseInt_10_at16_syntax_var Tryd.laysC174 s hlim h tp p w hvar
open Go.RowKit in
theorem Tryd.strconv_ParseInt_10_at16_range_var (s : ByteArray) (hlim : s.size ≤ 281474976710656) (h : Lib.parseIntB 16 s.data.toList = .range) (tp : TypeId) (p : Value) (w : World) (hvar : w.var? Tryd.prog "strconv.ErrRange" = some #[.iface tp p]) :
    Calls Tryd.prog 22 #[.string s, .int .i64 10, .int .i64 16] w fun e w' => ∃ N, e = .returned (.tuple #[.int .i64 (Lib.intSat 16 s.data.toList), .iface 65 (.pointer (some ⟨N, 0, none⟩))]) ∧ w.heap.size ≤ N ∧ w'.heap[N]? = some (.cells #[.string ⟨#[80, 97, 114, 115, 101, 73, 110, 116]⟩, .string s, .iface tp p] 75 (0, 0)) ∧ Below w.heap.size w w' := Any.strconv_ParseInt_10_at16_range_var Tryd.laysC174 s hlim h tp p w hvar
open Go.RowKit in
theorem Tryd.strconv_ParseInt_10_at8_syntax_var (s : ByteArray) (hlim : s.size ≤ 281474976710656) (h : Lib.parseIntB 8 s.data.toList = .«syntax») (tp : TypeId) (p : Value) (w : World) (hvar : w.var? Tryd.prog "strconv.ErrSyntax" = some #[.iface tp p]) :
    Calls Tryd.prog 22 #[.string s, .int .i64 10, .int .i64 8] w fun e w' => ∃ N, e = .returned (.tuple #[.int .i64 (0), .iface 65 (.pointer (some ⟨N, 0, none⟩))]) ∧ w.heap.size ≤ N ∧ w'.heap[N]? = some (.cells #[.string ⟨#[80, 97, 114, 115, 101, 73, 110, 116]⟩, .string s, .iface tp p] 75 (0, 0)) ∧ Below w.heap.size w w' := Any.strconv_ParseInt_10_at8_syntax_var Tryd.laysC174 s hlim h tp p w hvar
open Go.RowKit in
theorem Tryd.strconv_ParseInt_10_at8_range_var (s : ByteArray) (hlim : s.size ≤ 281474976710656) (h : Lib.parseIntB 8 s.data.toList = .range) (tp : TypeId) (p : Value) (w : World) (hvar : w.var? Tryd.prog "strconv.ErrRange" = some #[.iface tp p]) :
    Calls Tryd.prog 22 #[.string s, .int .i64 10, .int .i64 8] w fun e w' => ∃ N, e = .returned (.tuple #[.int .i64 (Lib.intSat 8 s.data.toList), .iface 65 (.pointer (some ⟨N, 0, none⟩))]) ∧ w.heap.size ≤ N ∧ w'.heap[N]? = some (.cells #[.string ⟨#[80, 97, 114, 115, 101, 73, 110, 116]⟩, .string s, .iface tp p] 75 (0, 0)) ∧ Below w.heap.size w w' := Any.strconv_ParseInt_10_at8_range_var Tryd.laysC174 s hlim h tp p w hvar
def Tryd.lays224_ren : Go.Shelf.Ren := ⟨fun | 224 => 50 | n => n, fun | 3 => 3 | n => n, fun | n => n⟩
theorem Tryd.lays224 : Go.Proofs.Lays.n224 Tryd.prog Tryd.lays224_ren := {
  mixed := by kernel_rfl
  f224 := Tryd.func50.trans (congrArg some (by kernel_rfl))
  t3 := Tryd.underlying3
  a3 := Tryd.isAgg3
  z3 := Tryd.sizeOf3
  v3 := Tryd.zeroValue3 }
open Go.RowKit Go.Lib in
theorem Tryd.bytealg_Cutover (n : Int) (h0 : 0 ≤ n) (h1 : n < 4611686018427387904) (w : World) :
    Calls Tryd.prog 50 #[.int .i64 n] w fun e w' => e = .returned (.int .i64 ((n + 16) / 8)) ∧ w' = w := Any.bytealg_Cutover Tryd.lays224 n h0 h1 w
open Go.RowKit Go.Lib in
theorem Tryd.utf8_RuneCountInString_ascii (s : ByteArray) (w : World) (hs : s.size < 4294967281) (hascii : ∀ (j : Nat) b, s.data.toList[j]? = some b → b.toNat < 128) :
    Calls Tryd.prog 46 #[.string s] w fun e w' => e = .returned (.int .i64 s.size) ∧ w' = w.iter s s.size := Any.utf8_RuneCountInString_ascii Tryd.lays195 s w hs hascii
def Tryd.lays185_ren : Go.Shelf.Ren := ⟨fun | 185 => 36 | 187 => 47 | 115 => 48 | 253 => 49 | 224 => 50 | 254 => 51 | 255 => 59 | 291 => 60 | n => n, fun | 37 => 22 | 3 => 3 | 4 => 4 | 0 => 0 | 5 => 5 | 46 => 64 | 9 => 9 | 146 => 79 | 51 => 78 | n => n, fun | 1 => 0 | n => n⟩
theorem Tryd.lays185 : Go.Proofs.Lays.n185 Tryd.prog Tryd.lays185_ren := {
  mixed := by kernel_rfl
  f115 := Tryd.func48.trans (congrArg some (by kernel_rfl))
  f185 := Tryd.func36.trans (congrArg some (by kernel_rfl))
  f187 := Tryd.func47.trans (congrArg some (by kernel_rfl))
  f224 := Tryd.func50.trans (congrArg some (by kernel_rfl))
  f253 := Tryd.func49.trans (congrArg some (by kernel_rfl))
  f254 := Tryd.func51.trans (congrArg some (by kernel_rfl))
  f255 := Tryd.func59.trans (congrArg some (by kernel_rfl))
  f291 := Tryd.func60.trans (congrArg some (by kernel_rfl))
  t0 := Tryd.underlying0
  a0 := Tryd.isAgg0
  z0 := Tryd.sizeOf0
  v0 := Tryd.zeroValue0
  t3 := Tryd.underlying3
  a3 := Tryd.isAgg3
  z3 := Tryd.sizeOf3
  v3 := Tryd.zeroValue3
  t4 := Tryd.underlying4
  a4 := Tryd.isAgg4
  z4 := Tryd.sizeOf4
  v4 := Tryd.zeroValue4
  t5 := Tryd.underlying5
  a5 := Tryd.isAgg5
  z5 := Tryd.sizeOf5
  v5 := Tryd.zeroValue5
  t9 := Tryd.underlying9
  a9 := Tryd.isAgg9
  z9 := Tryd.sizeOf9
  v9 := Tryd.zeroValue9
  t37 := Tryd.underlying22
  a37 := Tryd.isAgg22
  z37 := Tryd.sizeOf22
  v37 := Tryd.zeroValue22
  t46 := Tryd.underlying64
  a46 := Tryd.isAgg64
  z46 := Tryd.sizeOf64
  v46 := Tryd.zeroValue64
  t51 := Tryd.underlying78
  a51 := Tryd.isAgg78
  z51 := Tryd.sizeOf78
  v51 := Tryd.zeroValue78
  t146 := Tryd.underlying79
  a146 := Tryd.isAgg79
  z146 := Tryd.sizeOf79
  v146 := Tryd.zeroValue79
  g1 := by kernel_rfl }
open Go.RowKit Go.Lib in
theorem Tryd.bytes_Index_one (b o n c b2 o2 d : Nat) (xs : List Int) (cv : Int) (w : World) (hx : xs.length = n) (hc : ∀ i, i < n → w.cell? ⟨b, o + i, none⟩ = some (.int .u8 (xs.getD i 0))) (hc2 : w.cell? ⟨b2, o2, none⟩ = some (.int .u8 cv)) :
    Calls Tryd.prog 36 #[.slice (some ⟨b, o, none⟩) n c, .slice (some ⟨b2, o2, none⟩) 1 d] w fun e w' => e = .returned (.int .i64 (Lib.indexByte (Lib.bytesOf xs) cv.toNat.toUInt8)) ∧ w' = w := Any.bytes_Index_one Tryd.lays185 b o n c b2 o2 d xs cv w hx hc hc2
open Go.RowKit Go.Lib in
theorem Tryd.bytes_Index_one_nil (b2 o2 d : Nat) (cv : Int) (w : World) (hc2 : w.cell? ⟨b2, o2, none⟩ = some (.int .u8 cv)) :
    Calls Tryd.prog 36 #[.slice none 0 0, .slice (some ⟨b2, o2, none⟩) 1 d] w fun e w' => e = .returned (.int .i64 (-1)) ∧ w' = w := Any.bytes_Index_one_nil Tryd.lays185 b2 o2 d cv w hc2
open Go.RowKit Go.Lib in
theorem Tryd.bytes_Index_none (p q : Option Addr) (n c d : Nat) (w : World) :
    Calls Tryd.prog 36 #[.slice p n c, .slice q 0 d] w fun e w' => e = .returned (.int .i64 0) ∧ w' = w := Any.bytes_Index_none Tryd.lays185 p q n c d w
open Go.RowKit Go.Lib in
theorem Tryd.bytes_Index_longer (p q : Option Addr) (n c m d : Nat) (w : World) (h2 : 2 ≤ m) (hnm : n < m) (hm : m ≤ 9223372036854775807) :
    Calls Tryd.prog 36 #[.slice p n c, .slice q m d] w fun e w' => e = .returned (.int .i64 (-1)) ∧ w' = w := Any.bytes_Index_longer Tryd.lays185 p q n c m d w h2 hnm hm
open Go.RowKit Go.Lib in
theorem Tryd.bytes_Index_same (b o c b2 o2 d n : Nat) (xs ys : List Int) (w : World) (h2 : 2 ≤ n) (hm : n ≤ 9223372036854775807) (hx : xs.length = n) (hy : ys.length = n) (hc : ∀ i, i < n → w.cell? ⟨b, o + i, none⟩ = some (.int .u8 (xs.getD i 0))) (hc2 : ∀ i, i < n → w.cell? ⟨b2, o2 + i, none⟩ = some (.int .u8 (ys.getD i 0))) :
    Calls Tryd.prog 36 #[.slice (some ⟨b, o, none⟩) n c, .slice (some ⟨b2, o2, none⟩) n d] w fun e w' => e = .returned (.int .i64 (if Lib.bytesOf ys == Lib.bytesOf xs then 0 else -1)) ∧ w' = w := Any.bytes_Index_same Tryd.lays185 b o c b2 o2 d n xs ys w h2 hm hx hy hc hc2
def Tryd.laysSlB13_ren : Go.Shelf.Ren := ⟨fun | 13 => 24 | 24 => 34 | 25 => 35 | 12 => 36 | 31 => 46 | 19 => 47 | 20 => 48 | 21 => 49 | 22 => 50 | 23 => 51 | 29 => 59 | 30 => 60 | n => n, fun | 22 => 22 | 3 => 3 | 4 => 4 | 0 => 0 | 5 => 5 | 9 => 9 | 33 => 64 | 40 => 79 | 39 => 78 | n => n, fun | 0 => 0 | n => n⟩
theorem Tryd.laysSlB13 : Go.Proofs.SlLaysB.n13 Tryd.prog Tryd.laysSlB13_ren := {
  mixed := by kernel_rfl
  f13 := Tryd.func24.trans (congrArg some (by kernel_rfl))
  f25 := Tryd.func35.trans (congrArg some (by kernel_rfl))
  t0 := Tryd.underlying0
  a0 := Tryd.isAgg0
  z0 := Tryd.sizeOf0
  v0 := Tryd.zeroValue0
  t3 := Tryd.underlying3
  a3 := Tryd.isAgg3
  z3 := Tryd.sizeOf3
  v3 := Tryd.zeroValue3
  t4 := Tryd.underlying4
  a4 := Tryd.isAgg4
  z4 := Tryd.sizeOf4
  v4 := Tryd.zeroValue4
  t5 := Tryd.underlying5
  a5 := Tryd.isAgg5
  z5 := Tryd.sizeOf5
  v5 := Tryd.zeroValue5
  t22 := Tryd.underlying22
  a22 := Tryd.isAgg22
  z22 := Tryd.sizeOf22
  v22 := Tryd.zeroValue22 }
open Go.RowKit Go.Lib in
theorem Tryd.bytes_Count_one (b o n c b2 o2 d : Nat) (xs : List Int) (cv : Int) (w : World) (hx : xs.length = n) (hc : ∀ i, i < n → w.cell? ⟨b, o + i, none⟩ = some (.int .u8 (xs.getD i 0))) (hc2 : w.cell? ⟨b2, o2, none⟩ = some (.int .u8 cv)) :
    Calls Tryd.prog 24 #[.slice (some ⟨b, o, none⟩) n c, .slice (some ⟨b2, o2, none⟩) 1 d] w fun e w' => e = .returned (.int .i64 (Lib.countByte (Lib.bytesOf xs) cv.toNat.toUInt8)) ∧ w' = w := Any.bytes_Count_one Tryd.laysSlB13 b o n c b2 o2 d xs cv w hx hc hc2
open Go.RowKit Go.Lib in
theorem Tryd.bytes_Count_one_at (a : Addr) (n c b2 o2 d : Nat) (xs : List Int) (cv : Int) (w : World) (hx : xs.length = n) (hc : ∀ i, i < n → w.cell? (a.add i) = some (.int .u8 (xs.getD i 0))) (hc2 : w.cell? ⟨b2, o2, none⟩ = some (.int .u8 cv)) :
    Calls Tryd.prog 24 #[.slice (some a) n c, .slice (some ⟨b2, o2, none⟩) 1 d] w fun e w' => e = .returned (.int .i64 (Lib.countByte (Lib.bytesOf xs) cv.toNat.toUInt8)) ∧ w' = w := Any.bytes_Count_one_at Tryd.laysSlB13 a n c b2 o2 d xs cv w hx hc hc2
open Go.RowKit Go.Lib in
theorem Tryd.bytes_Count_one_nil (b2 o2 d : Nat) (cv : Int) (w : World) (hc2 : w.cell? ⟨b2, o2, none⟩ = some (.int .u8 cv)) :
    Calls Tryd.prog 24 #[.slice none 0 0, .slice (some ⟨b2, o2, none⟩) 1 d] w fun e w' => e = .returned (.int .i64 0) ∧ w' = w := Any.bytes_Count_one_nil Tryd.laysSlB13 b2 o2 d cv w hc2
def Tryd.lays187_ren : Go.Shelf.Ren := ⟨fun | 187 => 47 | 255 => 59 | n => n, fun | 37 => 22 | 5 => 5 | 3 => 3 | n => n, fun | n => n⟩
theorem Tryd.lays187 : Go.Proofs.Lays.n187 Tryd.prog Tryd.lays187_ren := {
  mixed := by kernel_rfl
  f187 := Tryd.func47.trans (congrArg some (by kernel_rfl))
  f255 := Tryd.func59.trans (congrArg some (by kernel_rfl))
  t3 := Tryd.underlying3
  a3 := Tryd.isAgg3
  z3 := Tryd.sizeOf3
  v3 := Tryd.zeroValue3
  t5 := Tryd.underlying5
  a5 := Tryd.isAgg5
  z5 := Tryd.sizeOf5
  v5 := Tryd.zeroValue5
  t37 := Tryd.underlying22
  a37 := Tryd.isAgg22
  z37 := Tryd.sizeOf22
  v37 := Tryd.zeroValue22 }
open Go.RowKit Go.Lib in
theorem Tryd.bytes_IndexByte_at (a : Addr) (n c : Nat) (xs : List Int) (cv : Int) (w : World) (hx : xs.length = n) (hc : ∀ i, i < n → w.cell? (a.add i) = some (.int .u8 (xs.getD i 0))) :
    Calls Tryd.prog 47 #[.slice (some a) n c, .int .u8 cv] w fun e w' => e = .returned (.int .i64 (Lib.indexByte (Lib.bytesOf xs) cv.toNat.toUInt8)) ∧ w' = w := Any.bytes_IndexByte_at Tryd.lays187 a n c xs cv w hx hc
open Go.RowKit Go.Lib in
theorem Tryd.bytes_Index_one_at (a : Addr) (n c b2 o2 d : Nat) (xs : List Int) (cv : Int) (w : World) (hx : xs.length = n) (hc : ∀ i, i < n → w.cell? (a.add i) = some (.int .u8 (xs.getD i 0))) (hc2 : w.cell? ⟨b2, o2, none⟩ = some (.int .u8 cv)) :
    Calls Tryd.prog 36 #[.slice (some a) n c, .slice (some ⟨b2, o2, none⟩) 1 d] w fun e w' => e = .returned (.int .i64 (Lib.indexByte (Lib.bytesOf xs) cv.toNat.toUInt8)) ∧ w' = w := Any.bytes_Index_one_at Tryd.lays185 a n c b2 o2 d xs cv w hx hc hc2
open Go.Proofs Go.RowKit Go.Lib in
theorem Tryd.bytes_IndexByte_bytes (b o cap : Nat) (t : ByteArray) (cv : Int) (w : World) (hc : Lib.Bytes w b o t) :
    Calls Tryd.prog 47 #[.slice (some ⟨b, o, none⟩) t.size cap, .int .u8 cv] w fun e w' => e = .returned (.int .i64 (Lib.indexByte t.data.toList cv.toNat.toUInt8)) ∧ w' = w := Any.bytes_IndexByte_bytes Tryd.lays187 b o cap t cv w hc
def Tryd.lays115_ren : Go.Shelf.Ren := ⟨fun | 115 => 48 | n => n, fun | 37 => 22 | 4 => 4 | 9 => 9 | 5 => 5 | n => n, fun | n => n⟩
theorem Tryd.lays115 : Go.Proofs.Lays.n115 Tryd.prog Tryd.lays115_ren := {
  mixed := by kernel_rfl
  f115 := Tryd.func48.trans (congrArg some (by kernel_rfl))
  t4 := Tryd.underlying4
  a4 := Tryd.isAgg4
  z4 := Tryd.sizeOf4
  v4 := Tryd.zeroValue4
  t9 := Tryd.underlying9
  a9 := Tryd.isAgg9
  z9 := Tryd.sizeOf9
  v9 := Tryd.zeroValue9
  t37 := Tryd.underlying22
  a37 := Tryd.isAgg22
  z37 := Tryd.sizeOf22
  v37 := Tryd.zeroValue22 }
open Go.Proofs Go.RowKit Go.Lib in
theorem Tryd.bytes_Equal_strs (v1 v2 : Value) (t1 t2 : ByteArray) (w : World) (h1 : (convert 22 9 v1).run Tryd.prog w = .ok (.string t1) w) (h2 : (convert 22 9 v2).run Tryd.prog w = .ok (.string t2) w) :
    Calls Tryd.prog 48 #[v1, v2] w fun e w' => e = .returned (.bool (t1.toList == t2.toList)) ∧ w' = w := Any.bytes_Equal_strs Tryd.lays115 v1 v2 t1 t2 w h1 h2
def Tryd.lays291_ren : Go.Shelf.Ren := ⟨fun | 291 => 60 | n => n, fun | 37 => 22 | 51 => 78 | 3 => 3 | 4 => 4 | 0 => 0 | 5 => 5 | 46 => 64 | n => n, fun | n => n⟩
theorem Tryd.lays291 : Go.Proofs.Lays.n291 Tryd.prog Tryd.lays291_ren := {
  mixed := by kernel_rfl
  f291 := Tryd.func60.trans (congrArg some (by kernel_rfl))
  t0 := Tryd.underlying0
  a0 := Tryd.isAgg0
  z0 := Tryd.sizeOf0
  v0 := Tryd.zeroValue0
  t3 := Tryd.underlying3
  a3 := Tryd.isAgg3
  z3 := Tryd.sizeOf3
  v3 := Tryd.zeroValue3
  t4 := Tryd.underlying4
  a4 := Tryd.isAgg4
  z4 := Tryd.sizeOf4
  v4 := Tryd.zeroValue4
  t5 := Tryd.underlying5
  a5 := Tryd.isAgg5
  z5 := Tryd.sizeOf5
  v5 := Tryd.zeroValue5
  t37 := Tryd.underlying22
  a37 := Tryd.isAgg22
  z37 := Tryd.sizeOf22
  v37 := Tryd.zeroValue22
  t46 := Tryd.underlying64
  a46 := Tryd.isAgg64
  z46 := Tryd.sizeOf64
  v46 := Tryd.zeroValue64
  t51 := Tryd.underlying78
  a51 := Tryd.isAgg78
  z51 := Tryd.sizeOf78
  v51 := Tryd.zeroValue78 }
open Go.RowKit Go.Lib in
theorem Tryd.bytealg_hashStr_bytes (b o c : Nat) (sep : ByteArray) (hs : sep.size < 4294967281) (w : World) (hc : Lib.Bytes w b o sep) :
    Calls Tryd.prog 60 #[.slice (some ⟨b, o, none⟩) sep.size c] w fun e w' => e = .returned (.tuple #[.int .u32 (RK.H sep.data.toList % 4294967296), .int .u32 (16777619 ^ sep.size % 4294967296)]) ∧ w' = w := Any.bytealg_hashStr_bytes Tryd.lays291 b o c sep hs w hc
def Tryd.lays254_ren : Go.Shelf.Ren := ⟨fun | 254 => 51 | 291 => 60 | n => n, fun | 37 => 22 | 3 => 3 | 146 => 79 | 51 => 78 | 4 => 4 | 0 => 0 | 5 => 5 | 9 => 9 | 46 => 64 | n => n, fun | n => n⟩
theorem Tryd.lays254 : Go.Proofs.Lays.n254 Tryd.prog Tryd.lays254_ren := {
  mixed := by kernel_rfl
  f254 := Tryd.func51.trans (congrArg some (by kernel_rfl))
  f291 := Tryd.func60.trans (congrArg some (by kernel_rfl))
  t0 := Tryd.underlying0
  a0 := Tryd.isAgg0
  z0 := Tryd.sizeOf0
  v0 := Tryd.zeroValue0
  t3 := Tryd.underlying3
  a3 := Tryd.isAgg3
  z3 := Tryd.sizeOf3
  v3 := Tryd.zeroValue3
  t4 := Tryd.underlying4
  a4 := Tryd.isAgg4
  z4 := Tryd.sizeOf4
  v4 := Tryd.zeroValue4
  t5 := Tryd.underlying5
  a5 := Tryd.isAgg5
  z5 := Tryd.sizeOf5
  v5 := Tryd.zeroValue5
  t9 := Tryd.underlying9
  a9 := Tryd.isAgg9
  z9 := Tryd.sizeOf9
  v9 := Tryd.zeroValue9
  t37 := Tryd.underlying22
  a37 := Tryd.isAgg22
  z37 := Tryd.sizeOf22
  v37 := Tryd.zeroValue22
  t46 := Tryd.underlying64
  a46 := Tryd.isAgg64
  z46 := Tryd.sizeOf64
  v46 := Tryd.zeroValue64
  t51 := Tryd.underlying78
  a51 := Tryd.isAgg78
  z51 := Tryd.sizeOf78
  v51 := Tryd.zeroValue78
  t146 := Tryd.underlying79
  a146 := Tryd.isAgg79
  z146 := Tryd.sizeOf79
  v146 := Tryd.zeroValue79 }
open Go.RowKit Go.Lib in
theorem Tryd.bytealg_IndexRabinKarp_bytes (b1 o1 c1 b2 o2 c2 : Nat) (s sep : ByteArray) (h1 : 1 ≤ sep.size) (h2 : sep.size ≤ s.size) (hs : s.size < 4294967281) (w : World) (hc1 : Lib.Bytes w b1 o1 s) (hc2 : Lib.Bytes w b2 o2 sep) (hcap : s.size ≤ c1) :
    Calls Tryd.prog 51 #[.slice (some ⟨b1, o1, none⟩) s.size c1, .slice (some ⟨b2, o2, none⟩) sep.size c2] w fun e w' => e = .returned (.int .i64 (Lib.index s.data.toList sep.data.toList)) ∧ ∃ q, w' = w.drewN q := Any.bytealg_IndexRabinKarp_bytes Tryd.lays254 b1 o1 c1 b2 o2 c2 s sep h1 h2 hs w hc1 hc2 hcap
open Go.RowKit Go.Lib in
theorem Tryd.bytes_Index_search (b1 o1 c1 b2 o2 c2 : Nat) (s sub : ByteArray) (m : Int) (w : World) (hs : s.size < 4294967281) (hm : w.cell? ⟨0, 0, none⟩ = some (.int .i64 m)) (hc1 : Lib.Bytes w b1 o1 s) (hc2 : Lib.Bytes w b2 o2 sub) (hcap : s.size ≤ c1) (hn2 : 2 ≤ sub.size) (hls : sub.size < s.size) :
    Calls Tryd.prog 36 #[.slice (some ⟨b1, o1, none⟩) s.size c1, .slice (some ⟨b2, o2, none⟩) sub.size c2] w fun e w' => e = .returned (.int .i64 (Lib.index s.data.toList sub.data.toList)) ∧ ∃ q, w' = w.drewN q := Any.bytes_Index_search Tryd.lays185 b1 o1 c1 b2 o2 c2 s sub m w hs hm hc1 hc2 hcap hn2 hls
open Go.Proofs Go.RowKit Go.Lib in
theorem Tryd.bytes_Index_at (a1 a2 : Addr) (n c1 k c2 : Nat) (xs ys : List Int) (m : Int) (w : World) (hx : xs.length = n) (hy : ys.length = k) (hr1 : ∀ x ∈ xs, 0 ≤ x ∧ x < 256) (hr2 : ∀ y ∈ ys, 0 ≤ y ∧ y < 256) (hc1 : ∀ i, i < n → w.cell? (a1.add i) = some (.int .u8 (xs.getD i 0))) (hc2 : ∀ i, i < k → w.cell? (a2.add i) = some (.int .u8 (ys.getD i 0))) (hcap : n ≤ c1) (hs : n < 4294967281) (hk : k ≤ 9223372036854775807) (hm : w.cell? ⟨0, 0, none⟩ = some (.int .i64 m)) :
    Calls Tryd.prog 36 #[.slice (some a1) n c1, .slice (some a2) k c2] w fun e w' => e = .returned (.int .i64 (Lib.index (Lib.bytesOf xs) (Lib.bytesOf ys))) ∧ ∃ q, w' = w.drewN q := Any.bytes_Index_at Tryd.lays185 a1 a2 n c1 k c2 xs ys m w hx hy hr1 hr2 hc1 hc2 hcap hs hk hm
open Go.Proofs Go.RowKit Go.Lib in
theorem Tryd.bytes_Index_nil (p2 : Option Addr) (k c2 : Nat) (w : World) (hk : k ≤ 9223372036854775807) (h1 : k = 1 → ∃ b2 o2 cv, p2 = some ⟨b2, o2, none⟩ ∧ w.cell? ⟨b2, o2, none⟩ = some (.int .u8 cv)) :
    Calls Tryd.prog 36 #[.slice none 0 0, .slice p2 k c2] w fun e w' => e = .returned (.int .i64 (if k = 0 then 0 else -1)) ∧ w' = w := Any.bytes_Index_nil Tryd.lays185 p2 k c2 w hk h1
def Tryd.laysM185_ren : Go.Shelf.Ren := ⟨fun | 185 => 36 | 187 => 47 | 115 => 48 | 253 => 49 | 224 => 50 | 254 => 51 | 255 => 59 | 291 => 60 | n => n, fun | 37 => 22 | 3 => 3 | 4 => 4 | 0 => 0 | 5 => 5 | 46 => 64 | 9 => 9 | 146 => 79 | 51 => 78 | n => n, fun | 1 => 0 | n => n⟩
theorem Tryd.laysM185 : Go.Proofs.LaysM.n185 Tryd.prog Tryd.laysM185_ren := {
  mixed := by kernel_rfl
  f115 := Tryd.func48.trans (congrArg some (by kernel_rfl))
  f185 := Tryd.func36.trans (congrArg some (by kernel_rfl))
  f187 := Tryd.func47.trans (congrArg some (by kernel_rfl))
  f224 := Tryd.func50.trans (congrArg some (by kernel_rfl))
  f253 := Tryd.func49.trans (congrArg some (by kernel_rfl))
  f254 := Tryd.func51.trans (congrArg some (by kernel_rfl))
  f255 := Tryd.func59.trans (congrArg some (by kernel_rfl))
  f291 := Tryd.func60.trans (congrArg some (by kernel_rfl))
  t0 := Tryd.underlying0
  a0 := Tryd.isAgg0
  z0 := Tryd.sizeOf0
  v0 := Tryd.zeroValue0
  t3 := Tryd.underlying3
  a3 := Tryd.isAgg3
  z3 := Tryd.sizeOf3
  v3 := Tryd.zeroValue3
  t4 := Tryd.underlying4
  a4 := Tryd.isAgg4
  z4 := Tryd.sizeOf4
  v4 := Tryd.zeroValue4
  t5 := Tryd.underlying5
  a5 := Tryd.isAgg5
  z5 := Tryd.sizeOf5
  v5 := Tryd.zeroValue5
  t9 := Tryd.underlying9
  a9 := Tryd.isAgg9
  z9 := Tryd.sizeOf9
  v9 := Tryd.zeroValue9
  t37 := Tryd.underlying22
  a37 := Tryd.isAgg22
  z37 := Tryd.sizeOf22
  v37 := Tryd.zeroValue22
  t46 := Tryd.underlying64
  a46 := Tryd.isAgg64
  z46 := Tryd.sizeOf64
  v46 := Tryd.zeroValue64
  t51 := Tryd.underlying78
  a51 := Tryd.isAgg78
  z51 := Tryd.sizeOf78
  v51 := Tryd.zeroValue78
  t146 := Tryd.underlying79
  a146 := Tryd.isAgg79
  z146 := Tryd.sizeOf79
  v146 := Tryd.zeroValue79
  g1 := by kernel_rfl
  i0 := by kernel_rfl
  i3 := by kernel_rfl
  i4 := by kernel_rfl
  i5 := by kernel_rfl
  i9 := by kernel_rfl
  i37 := by kernel_rfl
  i46 := by kernel_rfl
  i51 := by kernel_rfl
  i146 := by kernel_rfl
  m1 := by kernel_rfl
  s1_3 := fun w h => Go.Proofs.cell_of_shapedOpen_int (zero := #[.int .i64 0]) (t := 3) h (of_decide_eq_true (by kernel_rfl)) (by kernel_rfl) rfl (by kernel_rfl) (by kernel_rfl) Tryd.underlying3 }
open Go.Proofs Go.RowKit Go.Lib in
theorem Tryd.bytes_Index_at_shaped (a1 a2 : Addr) (n c1 k c2 : Nat) (xs ys : List Int) (w : World) (hx : xs.length = n) (hy : ys.length = k) (hr1 : ∀ x ∈ xs, 0 ≤ x ∧ x < 256) (hr2 : ∀ y ∈ ys, 0 ≤ y ∧ y < 256) (hc1 : ∀ i, i < n → w.cell? (a1.add i) = some (.int .u8 (xs.getD i 0))) (hc2 : ∀ i, i < k → w.cell? (a2.add i) = some (.int .u8 (ys.getD i 0))) (hcap : n ≤ c1) (hs : n < 4294967281) (hk : k ≤ 9223372036854775807) (h : w.ShapedOpen Tryd.prog) :
    Calls Tryd.prog 36 #[.slice (some a1) n c1, .slice (some a2) k c2] w fun e w' => e = .returned (.int .i64 (Lib.index (Lib.bytesOf xs) (Lib.bytesOf ys))) ∧ ∃ q, w' = w.drewN q := Any.bytes_Index_at_shaped Tryd.laysM185 a1 a2 n c1 k c2 xs ys w hx hy hr1 hr2 hc1 hc2 hcap hs hk h
theorem Tryd.bytes_Equal (v1 v2 : Value) (xs ys : List Int) (w : World) (h1 : (convert 22 9 v1).run Tryd.prog w = .ok (.string (strOfNums xs)) w) (h2 : (convert 22 9 v2).run Tryd.prog w = .ok (.string (strOfNums ys)) w) :
    Calls Tryd.prog 48 #[v1, v2] w fun e w' => e = .returned (.bool (Lib.bytesOf xs == Lib.bytesOf ys)) ∧ w' = w := Any.bytes_Equal Tryd.lays115 v1 v2 xs ys w h1 h2
theorem Tryd.bytes_IndexByte (b o n c : Nat) (xs : List Int) (cv : Int) (w : World) (hx : xs.length = n) (hc : ∀ i, i < n → w.cell? ⟨b, o + i, none⟩ = some (.int .u8 (xs.getD i 0))) :
    Calls Tryd.prog 47 #[.slice (some ⟨b, o, none⟩) n c, .int .u8 cv] w fun e w' => e = .returned (.int .i64 (Lib.indexByte (Lib.bytesOf xs) cv.toNat.toUInt8)) ∧ w' = w := Any.bytes_IndexByte Tryd.lays187 b o n c xs cv w hx hc
theorem Tryd.bytes_IndexByte_nil (cv : Int) (w : World) :
    Calls Tryd.prog 47 #[.slice none 0 0, .int .u8 cv] w fun e w' => e = .returned (.int .i64 (-1)) ∧ w' = w := Any.bytes_IndexByte_nil Tryd.lays187 cv w
end Go.Proofs
