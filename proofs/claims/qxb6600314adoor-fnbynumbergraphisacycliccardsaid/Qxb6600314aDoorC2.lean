/-
  Seat b6600314aD: components' closure meet. By an AI agent (seat 043).
-/
import Derived.Test.Qxb6600314aDoorC1
set_option linter.unusedSimpArgs false
set_option linter.unusedVariables false
namespace Go.Proofs.Qxb6600314aDoor
open Go.RowKit

theorem info54 : (Tryd.prog.info? 54).map (fun i => (i.zero, i.size, i.bytes)) = some (some (.agg #[.int .i64 0, .int .i64 0]), 2, 16) := by kernel_rfl

theorem cell_ne {w : World} {b o b' o' : Nat} (u : Value) (h : b ≠ b') : (w.setCell ⟨b', o', none⟩ u).cell? ⟨b, o, none⟩ = w.cell? ⟨b, o, none⟩ := cell_off u h

abbrev ptr (b : Nat) : Value := .pointer (some ⟨b, 0, none⟩)
/-- Blocks below B are untouched by an append to a row from B on. -/
theorem low_block {w w' : World} {B : Nat} {e : TypeId} {size n : Nat} {v : Value} {xs : List Value} (ho : w.ownsRow B e size v n xs) (hg : w.grownBy w' v.ownBlock) {b : Nat} {o : Obj} (hb : b < B) (h : w.heap[b]? = some o) : w'.heap[b]? = some o :=
  (hg.block b (lt_of_block h) (fun e => by have := (ho.lt b e.symm).1; omega)).trans h
theorem low_own {w w' : World} {B : Nat} {e : TypeId} {size n : Nat} {v : Value} {xs : List Value} (ho : w.ownsRow B e size v n xs) (hg : w.grownBy w' v.ownBlock) {b : Nat} {t : TypeId} {m : Nat} {ys : List Value} (hb : b < B) (h : Own w b t m ys) : Own w' b t m ys :=
  h.kept (w' := w') (X := v.ownBlock.toList) ⟨hg.size, fun i hi hx => hg.block i hi (fun e => hx (by rw [← e]; simp))⟩ (by
    cases hv : v.ownBlock with
    | none => simp
    | some g => have := (ho.lt g hv).1; simp; omega)

theorem owns_shape {w : World} {B : Nat} {e : TypeId} {size n : Nat} {v : Value} {xs : List Value} (h : w.ownsRow B e size v n xs) (hn : 0 < n) : ∃ g cap, v = .slice (some ⟨g, 0, none⟩) n cap ∧ n ≤ cap := by
  rcases h.2 with ⟨_, h0⟩ | ⟨g, cap, cur, hv, _, _, hc, _⟩
  · omega
  · exact ⟨g, cap, hv, hc⟩

/-- What meet leaves. -/
def Met (K : Ks) (n : Nat) (xo xl xs xc : List Value) (met at' : Nat) (w0 : World) (e : Ending) (w' : World) : Prop :=
  ∃ vs vc, e = .returned (.tuple #[]) ∧ St K n (xo.set at' (.int .i64 ((met : Int) + 1))) (xl.set at' (.int .i64 ((met : Int) + 1))) (xs.set at' (.bool true)) xc (met + 1) vs [at'] vc 1 [.int .i64 (at' : Int), .int .i64 0] w' ∧ Below w0.heap.size w0 w'

set_option maxHeartbeats 2000000 in
theorem meet_any (K : Ks) (w0 w : World) (hK : K.Ok w0.heap.size) (n at' met : Nat) (hat : at' < n) (hn : n ≤ 1024) (hm : met ≤ 1024) (xo xl xs xc : List Value) (vs vc : Value) (hS : St K n xo xl xs xc met vs [] vc 0 [] w) (hb : Below w0.heap.size w0 w) (hBw : K.B ≤ w.heap.size) :
    Calls Tryd.prog 26 #[.int .i64 (at' : Int), ptr K.m, ptr K.o, ptr K.l, ptr K.k, ptr K.s, ptr K.c] w fun e w' => Met K n xo xl xs xc met at' w0 e w' := by
  obtain ⟨t3, hi3, hz30, hz31, hz32⟩ := info_parts info3
  obtain ⟨t54, hi54, hz540, hz541, hz542⟩ := info_parts info54
  obtain ⟨k1, k2, k3, k4, k5, k6, k7, k8, k9, k10, k11⟩ := id hK
  have cm := cell_of_one hS.bm
  have fm := free_of_one hS.bm
  have co := cell_of_one hS.bo
  have cl := cell_of_one hS.bl
  have cs' := cell_of_one hS.bs
  have ck := cell_of_one hS.bk
  have fk := free_of_one hS.bk
  have cc := cell_of_one hS.bc
  have fc := free_of_one hS.bc
  obtain ⟨uo, huo⟩ := someAt hS.ro at' (by omega)
  obtain ⟨ul, hul⟩ := someAt hS.rl at' (by omega)
  have fo := hS.ro.frozenAt at'
  have fl := hS.rl.frozenAt at'
  have i0 : (0 : Int) ≤ (at' : Int) := by omega
  have i1 : (at' : Int) < (n : Int) := by omega
  have hm1 : (w.setCell ⟨K.m, 0, none⟩ (.int .i64 ((met : Int) + 1))).cell? ⟨K.m, 0, none⟩ = some (.int .i64 ((met : Int) + 1)) := World.cell?_setCell_same _ _ _ cm
  go_enter Tryd.func26, Tryd.ntmps26
  go_wp2
  go_region_held3 (fun w' => w'.cell? ⟨K.o, 0, none⟩ = some (sl K.O n) ∧ w'.cell? ⟨K.l, 0, none⟩ = some (sl K.L n) ∧ w'.cell? ⟨K.m, 0, none⟩ = some (.int .i64 ((met : Int) + 1)))
    (((try go_split_ands); refine ⟨?_, ?_, ?_⟩ <;> (simp (disch := omega) only [cell_drew, cell_drewN, cell_ne]; assumption))) (fail)
  have S3 : St K n (xo.set at' (.int .i64 ((met : Int) + 1))) (xl.set at' (.int .i64 ((met : Int) + 1))) xs xc (met + 1) vs [] vc 0 [] (((w.setCell ⟨K.m, 0, none⟩ (.int .i64 ((met : Int) + 1))).setCell ⟨K.O, at', none⟩ (.int .i64 ((met : Int) + 1))).setCell ⟨K.L, at', none⟩ (.int .i64 ((met : Int) + 1))) :=
    ((hS.setM hK (met + 1)).setO hK at' _).setL hK at' _
  have b3 : Below w0.heap.size w0 (((w.setCell ⟨K.m, 0, none⟩ (.int .i64 ((met : Int) + 1))).setCell ⟨K.O, at', none⟩ (.int .i64 ((met : Int) + 1))).setCell ⟨K.L, at', none⟩ (.int .i64 ((met : Int) + 1))) := bset (bset (bset hb (by omega) _) (by omega) _) (by omega) _
  have hsz3 : (((w.setCell ⟨K.m, 0, none⟩ (.int .i64 ((met : Int) + 1))).setCell ⟨K.O, at', none⟩ (.int .i64 ((met : Int) + 1))).setCell ⟨K.L, at', none⟩ (.int .i64 ((met : Int) + 1))).heap.size = w.heap.size := by simp
  have S3a := (S3.below ((Below.refl _ _).alloc (Nat.le_refl _) (.cells #[.int .i64 (at' : Int)] 3))).drewN 1
  have b3a := below_drewN (b3.alloc (by have := hb.size; rw [hsz3]; omega) (.cells #[.int .i64 (at' : Int)] 3)) 1
  have hnew := cell_one_new (((w.setCell ⟨K.m, 0, none⟩ (.int .i64 ((met : Int) + 1))).setCell ⟨K.O, at', none⟩ (.int .i64 ((met : Int) + 1))).setCell ⟨K.L, at', none⟩ (.int .i64 ((met : Int) + 1))) (.int .i64 (at' : Int)) 3
  rw [hsz3] at hnew
  go_wp2_with (at_builtin; refine wpList_append_own _ rfl (.tmp 18) (.tmp 20) 35 rfl K.B 3 t3 (.int .i64 0) 1 8 Tryd.underlying35 hi3 hz30 hz31 hz32 rfl (by decide) _ _ _ rfl S3a.rk ⟨_, 0, none⟩ 1 1 [.int .i64 (at' : Int)] rfl rfl ?c1 ?c2 ?c3 ?c4 ?c5 ?_)
  case c1 => exact hnew
  case c2 => intro u hu; simp at hu; subst hu; rfl
  case c3 => simp [maxLen]
  case c4 => simp
  case c5 => simp; omega
  intro v1 w1 ho1 hg1 _
  obtain ⟨g1, cp1, hv1, _⟩ := owns_shape ho1 (by simp)
  subst hv1
  have hbk1 := low_block S3a.rk hg1 (by omega) S3a.bk
  have hbs1 := low_block S3a.rk hg1 (by omega) S3a.bs
  have hbc1 := low_block S3a.rk hg1 (by omega) S3a.bc
  have hrs1 := low_own S3a.rk hg1 (by omega) S3a.rs
  have d1 := cell_of_one hbk1
  have d2 := free_of_one hbk1
  have d3 := cell_of_one hbs1
  have d4 := cell_of_one hbc1
  have d5 := free_of_one hbc1
  obtain ⟨us, d6⟩ := someAt hrs1 at' (by omega)
  have d7 := hrs1.frozenAt at'
  have S4 := S3a.grownK hK hg1 (.slice (some ⟨g1, 0, none⟩) 1 cp1) [at'] (by simpa [ints] using ho1)
  have b4 : Below w0.heap.size w0 (w1.setCell ⟨K.k, 0, none⟩ (.slice (some ⟨g1, 0, none⟩) 1 cp1)) := bset (b3a.grown hg1 b3a.size (fun g hg => by have := (S3a.rk.lt g hg).1; omega)) (by omega) _
  have S5 := S4.setS hK at' (.bool true)
  have b5 : Below w0.heap.size w0 ((w1.setCell ⟨K.k, 0, none⟩ (.slice (some ⟨g1, 0, none⟩) 1 cp1)).setCell ⟨K.S, at', none⟩ (.bool true)) := bset b4 (by omega) _
  have hsz1 : K.B ≤ w1.heap.size := by have h := hg1.size; simp at h; omega
  have hsz5 : ((w1.setCell ⟨K.k, 0, none⟩ (.slice (some ⟨g1, 0, none⟩) 1 cp1)).setCell ⟨K.S, at', none⟩ (.bool true)).heap.size = w1.heap.size := by simp
  have S5a := S5.below ((Below.refl _ _).alloc (Nat.le_refl _) (.cells #[.int .i64 (at' : Int), .int .i64 0] 54))
  have b5a := b5.alloc (by have := b5.size; omega) (.cells #[.int .i64 (at' : Int), .int .i64 0] 54)
  have hnew5 := cell_two_new ((w1.setCell ⟨K.k, 0, none⟩ (.slice (some ⟨g1, 0, none⟩) 1 cp1)).setCell ⟨K.S, at', none⟩ (.bool true)) (.int .i64 (at' : Int)) (.int .i64 0) 54
  rw [hsz5] at hnew5
  clear cm fm co cl cs' ck fk cc fc huo hul fo fl hm1 hnew S3 b3 hbk1 hbs1 hbc1 hrs1 hb hS
  go_wp2_with (at_builtin; refine wpList_append_own _ rfl (.tmp 25) (.tmp 28) 52 rfl K.B 54 t54 (.agg #[.int .i64 0, .int .i64 0]) 2 16 Tryd.underlying52 hi54 hz540 hz541 hz542 rfl (by decide) _ _ _ rfl S5a.rv ⟨_, 0, none⟩ 1 1 [.int .i64 (at' : Int), .int .i64 0] rfl rfl ?e1 ?e2 ?e3 ?e4 ?e5 ?_)
  case e1 => exact hnew5
  case e2 => intro u hu; simp at hu; rcases hu with rfl | rfl <;> rfl
  case e3 => simp [maxLen]
  case e4 => simp
  case e5 => simp; omega
  intro v2 w2 ho2 hg2 _
  obtain ⟨g2, cp2, hv2, _⟩ := owns_shape ho2 (by simp)
  subst hv2
  have hbc2 := low_block S5a.rv hg2 (by omega) S5a.bc
  have f1 := cell_of_one hbc2
  have f2 := free_of_one hbc2
  have S6 := S5a.grownV hK hg2 (.slice (some ⟨g2, 0, none⟩) 1 cp2) 1 [.int .i64 (at' : Int), .int .i64 0] ho2
  have b6 : Below w0.heap.size w0 (w2.setCell ⟨K.c, 0, none⟩ (.slice (some ⟨g2, 0, none⟩) 1 cp2)) := bset (b5a.grown hg2 b5a.size (fun g hg => by have := (S5a.rv.lt g hg).1; omega)) (by omega) _
  have HFIN : Hid (Met K n xo xl xs xc met at' w0 (.returned (.tuple #[])) (w2.setCell ⟨K.c, 0, none⟩ (.slice (some ⟨g2, 0, none⟩) 1 cp2))) := ⟨_, _, rfl, S6, b6⟩
  clear S6 b6 S5a b5a S5 b5 S4 b4 S3a b3a hnew5 ho1 ho2 hg1 hg2 hbc2 d1 d2 d3 d4 d5 d6 d7
  go_wp2
  go_end0
  exact HFIN.out

end Go.Proofs.Qxb6600314aDoor
