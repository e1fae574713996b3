/- Seat b6601132aD: library contracts, laid by the kit's tool for this program. -/
import Derived.Shelf.Strings.Prefix
import Derived.Shelf.Small.Wraps
import Derived.Shelf.Strings.Cut
import Derived.Shelf.LaysM
import Derived.Shelf.Strings.Shaped
import Derived.Shelf.Strings.SlTrimAscii
import Derived.Test.Qxb6601132aDoorProg
namespace Go.Proofs
open Go.Shelf
def Tryd.lays160_ren : Go.Shelf.Ren := ⟨fun | 160 => 19 | 232 => 23 | 231 => 22 | 227 => 24 | 234 => 26 | 233 => 25 | 236 => 28 | 235 => 27 | 228 => 31 | 271 => 34 | 151 => 33 | 197 => 32 | 120 => 41 | 152 => 40 | 260 => 39 | 137 => 44 | 119 => 45 | 224 => 37 | 225 => 36 | 217 => 35 | 266 => 42 | n => n, fun | 9 => 9 | 4 => 4 | 3 => 3 | 5 => 5 | 117 => 38 | 116 => 37 | 0 => 0 | 124 => 41 | 21 => 21 | 105 => 45 | 46 => 50 | 119 => 55 | 139 => 58 | 138 => 57 | n => n, fun | 3 => 1 | 4 => 2 | n => n⟩
theorem Tryd.lays160 : Go.Proofs.Lays.n160 Tryd.prog Tryd.lays160_ren := {
  mixed := by kernel_rfl
  f119 := Tryd.func45.trans (congrArg some (by kernel_rfl))
  f120 := Tryd.func41.trans (congrArg some (by kernel_rfl))
  f137 := Tryd.func44.trans (congrArg some (by kernel_rfl))
  f151 := Tryd.func33.trans (congrArg some (by kernel_rfl))
  f152 := Tryd.func40.trans (congrArg some (by kernel_rfl))
  f160 := Tryd.func19.trans (congrArg some (by kernel_rfl))
  f197 := Tryd.func32.trans (congrArg some (by kernel_rfl))
  f217 := Tryd.func35.trans (congrArg some (by kernel_rfl))
  f224 := Tryd.func37.trans (congrArg some (by kernel_rfl))
  f225 := Tryd.func36.trans (congrArg some (by kernel_rfl))
  f227 := Tryd.func24.trans (congrArg some (by kernel_rfl))
  f228 := Tryd.func31.trans (congrArg some (by kernel_rfl))
  f231 := Tryd.func22.trans (congrArg some (by kernel_rfl))
  f232 := Tryd.func23.trans (congrArg some (by kernel_rfl))
  f233 := Tryd.func25.trans (congrArg some (by kernel_rfl))
  f234 := Tryd.func26.trans (congrArg some (by kernel_rfl))
  f235 := Tryd.func27.trans (congrArg some (by kernel_rfl))
  f236 := Tryd.func28.trans (congrArg some (by kernel_rfl))
  f260 := Tryd.func39.trans (congrArg some (by kernel_rfl))
  f266 := Tryd.func42.trans (congrArg some (by kernel_rfl))
  f271 := Tryd.func34.trans (congrArg some (by kernel_rfl))
  t0 := Tryd.underlying0
  a0 := Tryd.isAgg0
  z0 := Tryd.sizeOf0
  v0 := Tryd.zeroValue0
  t3 := Tryd.underlying3
  a3 := Tryd.isAgg3
  z3 := Tryd.sizeOf3
  v3 := Tryd.zeroValue3
  t4 := Tryd.underlying4
  a4 := Tryd.isAgg4
  z4 := Tryd.sizeOf4
  v4 := Tryd.zeroValue4
  t5 := Tryd.underlying5
  a5 := Tryd.isAgg5
  z5 := Tryd.sizeOf5
  v5 := Tryd.zeroValue5
  t9 := Tryd.underlying9
  a9 := Tryd.isAgg9
  z9 := Tryd.sizeOf9
  v9 := Tryd.zeroValue9
  t21 := Tryd.underlying21
  a21 := Tryd.isAgg21
  z21 := Tryd.sizeOf21
  v21 := Tryd.zeroValue21
  t46 := Tryd.underlying50
  a46 := Tryd.isAgg50
  z46 := Tryd.sizeOf50
  v46 := Tryd.zeroValue50
  t105 := Tryd.underlying45
  a105 := Tryd.isAgg45
  z105 := Tryd.sizeOf45
  v105 := Tryd.zeroValue45
  t116 := Tryd.underlying37
  a116 := Tryd.isAgg37
  z116 := Tryd.sizeOf37
  t117 := Tryd.underlying38
  a117 := Tryd.isAgg38
  z117 := Tryd.sizeOf38
  v117 := Tryd.zeroValue38
  t119 := Tryd.underlying55
  a119 := Tryd.isAgg55
  z119 := Tryd.sizeOf55
  t124 := Tryd.underlying41
  a124 := Tryd.isAgg41
  z124 := Tryd.sizeOf41
  v124 := Tryd.zeroValue41
  t138 := Tryd.underlying57
  a138 := Tryd.isAgg57
  z138 := Tryd.sizeOf57
  v138 := Tryd.zeroValue57
  t139 := Tryd.underlying58
  a139 := Tryd.isAgg58
  z139 := Tryd.sizeOf58
  v139 := Tryd.zeroValue58
  g3 := by kernel_rfl
  g4 := by kernel_rfl }
def Tryd.lays103_ren : Go.Shelf.Ren := ⟨fun | 103 => 17 | 210 => 20 | 206 => 29 | n => n, fun | 9 => 9 | 4 => 4 | 24 => 30 | 3 => 3 | n => n, fun | n => n⟩
theorem Tryd.lays103 : Go.Proofs.Lays.n103 Tryd.prog Tryd.lays103_ren := {
  mixed := by kernel_rfl
  f103 := Tryd.func17.trans (congrArg some (by kernel_rfl))
  f206 := Tryd.func29.trans (congrArg some (by kernel_rfl))
  f210 := Tryd.func20.trans (congrArg some (by kernel_rfl))
  t3 := Tryd.underlying3
  a3 := Tryd.isAgg3
  z3 := Tryd.sizeOf3
  v3 := Tryd.zeroValue3
  t4 := Tryd.underlying4
  a4 := Tryd.isAgg4
  z4 := Tryd.sizeOf4
  v4 := Tryd.zeroValue4
  t9 := Tryd.underlying9
  a9 := Tryd.isAgg9
  z9 := Tryd.sizeOf9
  v9 := Tryd.zeroValue9
  t24 := Tryd.underlying30
  a24 := Tryd.isAgg30
  z24 := Tryd.sizeOf30
  v24 := Tryd.zeroValue30 }
open Go.RowKit in

theorem Tryd.strings_CutPrefix (s p : ByteArray) (w : World) :
    Calls Tryd.prog 17 #[.string s, .string p] w fun e w' => e = .returned (.tuple #[.string ⟨(Lib.trimPrefix s.data.toList p.data.toList).toArray⟩, .bool (Lib.hasPrefix s.data.toList p.data.toList)]) ∧ w' = w := Any.strings_CutPrefix Tryd.lays103 s p w
def Tryd.lays145_ren : Go.Shelf.Ren := ⟨fun | 145 => 18 | 220 => 21 | 219 => 30 | 217 => 35 | 225 => 36 | 224 => 37 | 267 => 38 | 266 => 42 | 314 => 43 | n => n, fun | 9 => 9 | 4 => 4 | 59 => 32 | 3 => 3 | 5 => 5 | 46 => 50 | 146 => 53 | 51 => 52 | n => n, fun | 1 => 0 | n => n⟩
theorem Tryd.lays145 : Go.Proofs.Lays.n145 Tryd.prog Tryd.lays145_ren := {
  mixed := by kernel_rfl
  f145 := Tryd.func18.trans (congrArg some (by kernel_rfl))
  f217 := Tryd.func35.trans (congrArg some (by kernel_rfl))
  f219 := Tryd.func30.trans (congrArg some (by kernel_rfl))
  f220 := Tryd.func21.trans (congrArg some (by kernel_rfl))
  f224 := Tryd.func37.trans (congrArg some (by kernel_rfl))
  f225 := Tryd.func36.trans (congrArg some (by kernel_rfl))
  f266 := Tryd.func42.trans (congrArg some (by kernel_rfl))
  f267 := Tryd.func38.trans (congrArg some (by kernel_rfl))
  f314 := Tryd.func43.trans (congrArg some (by kernel_rfl))
  t3 := Tryd.underlying3
  a3 := Tryd.isAgg3
  z3 := Tryd.sizeOf3
  v3 := Tryd.zeroValue3
  t4 := Tryd.underlying4
  a4 := Tryd.isAgg4
  z4 := Tryd.sizeOf4
  v4 := Tryd.zeroValue4
  t5 := Tryd.underlying5
  a5 := Tryd.isAgg5
  z5 := Tryd.sizeOf5
  v5 := Tryd.zeroValue5
  t9 := Tryd.underlying9
  a9 := Tryd.isAgg9
  z9 := Tryd.sizeOf9
  v9 := Tryd.zeroValue9
  t46 := Tryd.underlying50
  a46 := Tryd.isAgg50
  z46 := Tryd.sizeOf50
  v46 := Tryd.zeroValue50
  t51 := Tryd.underlying52
  a51 := Tryd.isAgg52
  z51 := Tryd.sizeOf52
  v51 := Tryd.zeroValue52
  t59 := Tryd.underlying32
  a59 := Tryd.isAgg32
  z59 := Tryd.sizeOf32
  v59 := Tryd.zeroValue32
  t146 := Tryd.underlying53
  a146 := Tryd.isAgg53
  z146 := Tryd.sizeOf53
  v146 := Tryd.zeroValue53
  g1 := by kernel_rfl }
open Go.RowKit Go.Lib in

theorem Tryd.strings_Cut (s sep : ByteArray) (m : Int) (w : World) (hs : s.size < 4294967281) (hm : w.cell? ⟨0, 0, none⟩ = some (.int .i64 m)) :
    Calls Tryd.prog 18 #[.string s, .string sep] w fun e w' => e = .returned (.tuple #[.string ⟨(Lib.cut s.data.toList sep.data.toList).1.toArray⟩, .string ⟨(Lib.cut s.data.toList sep.data.toList).2.1.toArray⟩, .bool (Lib.cut s.data.toList sep.data.toList).2.2]) ∧ ∃ n, w' = w.drewN n := Any.strings_Cut Tryd.lays145 s sep m w hs hm
def Tryd.laysM145_ren : Go.Shelf.Ren := ⟨fun | 145 => 18 | 220 => 21 | 219 => 30 | 217 => 35 | 225 => 36 | 224 => 37 | 267 => 38 | 266 => 42 | 314 => 43 | n => n, fun | 9 => 9 | 4 => 4 | 59 => 32 | 3 => 3 | 5 => 5 | 46 => 50 | 146 => 53 | 51 => 52 | n => n, fun | 1 => 0 | n => n⟩
theorem Tryd.laysM145 : Go.Proofs.LaysM.n145 Tryd.prog Tryd.laysM145_ren := {
  mixed := by kernel_rfl
  f145 := Tryd.func18.trans (congrArg some (by kernel_rfl))
  f217 := Tryd.func35.trans (congrArg some (by kernel_rfl))
  f219 := Tryd.func30.trans (congrArg some (by kernel_rfl))
  f220 := Tryd.func21.trans (congrArg some (by kernel_rfl))
  f224 := Tryd.func37.trans (congrArg some (by kernel_rfl))
  f225 := Tryd.func36.trans (congrArg some (by kernel_rfl))
  f266 := Tryd.func42.trans (congrArg some (by kernel_rfl))
  f267 := Tryd.func38.trans (congrArg some (by kernel_rfl))
  f314 := Tryd.func43.trans (congrArg some (by kernel_rfl))
  t3 := Tryd.underlying3
  a3 := Tryd.isAgg3
  z3 := Tryd.sizeOf3
  v3 := Tryd.zeroValue3
  t4 := Tryd.underlying4
  a4 := Tryd.isAgg4
  z4 := Tryd.sizeOf4
  v4 := Tryd.zeroValue4
  t5 := Tryd.underlying5
  a5 := Tryd.isAgg5
  z5 := Tryd.sizeOf5
  v5 := Tryd.zeroValue5
  t9 := Tryd.underlying9
  a9 := Tryd.isAgg9
  z9 := Tryd.sizeOf9
  v9 := Tryd.zeroValue9
  t46 := Tryd.underlying50
  a46 := Tryd.isAgg50
  z46 := Tryd.sizeOf50
  v46 := Tryd.zeroValue50
  t51 := Tryd.underlying52
  a51 := Tryd.isAgg52
  z51 := Tryd.sizeOf52
  v51 := Tryd.zeroValue52
  t59 := Tryd.underlying32
  a59 := Tryd.isAgg32
  z59 := Tryd.sizeOf32
  v59 := Tryd.zeroValue32
  t146 := Tryd.underlying53
  a146 := Tryd.isAgg53
  z146 := Tryd.sizeOf53
  v146 := Tryd.zeroValue53
  g1 := by kernel_rfl
  i3 := by kernel_rfl
  i4 := by kernel_rfl
  i5 := by kernel_rfl
  i9 := by kernel_rfl
  i46 := by kernel_rfl
  i51 := by kernel_rfl
  i59 := by kernel_rfl
  i146 := by kernel_rfl
  m1 := by kernel_rfl
  s1_3 := fun w h => Go.Proofs.cell_of_shapedOpen_int (zero := #[.int .i64 0]) (t := 3) h (of_decide_eq_true (by kernel_rfl)) (by kernel_rfl) rfl (by kernel_rfl) (by kernel_rfl) Tryd.underlying3 }
end Go.Proofs
