/-
  Seat b6601221aD: the library's trims; the walk of significand. By an AI agent (seat 043).
-/
import Derived.Test.Qxb6601221aDoorW1
import Derived.Test.Qxb6601221aDoorShelf
import Derived.Lib.Bytes
import Derived.Shelf.Bytes.SlSmallAll
import Derived.Lib.ConvBytes
import Derived.Deep.CutBlock
import Derived.Deep.QuietTactic
set_option linter.unusedSimpArgs false
set_option linter.unusedVariables false
namespace Go.Proofs.Qxb6601221aDoor
open Go.RowKit

abbrev Str (l : List UInt8) : ByteArray := ⟨l.toArray⟩
theorem str_size (l : List UInt8) : (Str l).size = l.length := rfl
def lz (l : List UInt8) : List UInt8 := l.dropWhile (· == 48)
def rz (l : List UInt8) : List UInt8 := (l.reverse.dropWhile (· == 48)).reverse
theorem one48 (x : UInt8) : ([48] : List UInt8).contains x = (x == 48) := by
  rw [List.contains_cons, List.contains_nil, Bool.or_false]
theorem lz_eq (l : List UInt8) : Lib.trimLeftS l [48] = lz l := by
  unfold Lib.trimLeftS lz
  congr 1
  funext x
  exact one48 x
theorem rz_eq (l : List UInt8) : Lib.trimRightS l [48] = rz l := by
  unfold Lib.trimRightS rz
  congr 2
  funext x
  exact one48 x
theorem lz_drop (l : List UInt8) : lz l = l.drop (l.length - (lz l).length) := by
  have h := List.takeWhile_append_dropWhile (p := (· == 48)) (l := l)
  have e : l.length = (l.takeWhile (· == 48)).length + (lz l).length := by
    conv => lhs; rw [← h]
    rw [List.length_append]; rfl
  conv => rhs; arg 2; rw [← h]
  rw [show l.length - (lz l).length = (l.takeWhile (· == 48)).length by omega, List.drop_left']
  · rfl
  · rfl
theorem lz_len (l : List UInt8) : (lz l).length ≤ l.length := by
  have h := lz_drop l
  rw [h, List.length_drop]; omega
theorem rz_pre (l : List UInt8) : ∃ z, l = rz l ++ z ∧ ∀ b ∈ z, b = 48 := by
  refine ⟨(l.reverse.takeWhile (· == 48)).reverse, ?_, ?_⟩
  · have h := List.takeWhile_append_dropWhile (p := (· == 48)) (l := l.reverse)
    have h2 := congrArg List.reverse h
    rw [List.reverse_append, List.reverse_reverse] at h2
    exact h2.symm
  · intro b hb
    rw [List.mem_reverse] at hb
    have h := List.all_takeWhile (p := (· == (48 : UInt8))) (l := l.reverse)
    rw [List.all_eq_true] at h
    exact eq_of_beq (h b hb)
theorem rz_len (l : List UInt8) : (rz l).length ≤ l.length := by
  obtain ⟨z, h, _⟩ := rz_pre l
  conv => rhs; rw [h]
  rw [List.length_append]; omega

theorem BAt.lib {w : World} {a : Option Addr} {bs : List UInt8} (h : BAt w a bs) : Lib.BytesAt w a bs.length bs := by
  intro hp
  obtain ⟨g, o, rfl, _⟩ := h 0 (bs[0]) (by simp [hp])
  refine ⟨g, o, rfl, fun i hi => ?_⟩
  obtain ⟨g', o', e, hc⟩ := h i (bs[i]) (by simp [hi])
  cases e
  rw [hc]
  simp [List.getD, hi]
theorem BAt.drop {w : World} {g o : Nat} {bs : List UInt8} (h : BAt w (some ⟨g, o, none⟩) bs) (j : Nat) : BAt w (some ⟨g, o + j, none⟩) (bs.drop j) := by
  intro k b hk
  rw [List.getElem?_drop] at hk
  obtain ⟨g', o', e, hc⟩ := h (j + k) b hk
  cases e
  exact ⟨g, o + j, rfl, by rw [Nat.add_assoc]; exact hc⟩
theorem BAt.pre {w : World} {a : Option Addr} {x z : List UInt8} (h : BAt w a (x ++ z)) : BAt w a x := by
  intro k b hk
  have hl := (List.getElem?_eq_some_iff.1 hk).1
  exact h k b (by rw [List.getElem?_append_left hl]; exact hk)

/-- What TrimLeft leaves. -/
def LzRes (w : World) (bs : List UInt8) (e : Ending) (w' : World) : Prop := ∃ a c, e = .returned (.slice a (lz bs).length c) ∧ (lz bs).length ≤ c ∧ c ≤ 9223372036854775807 ∧ BAt w a (lz bs) ∧ w' = w
theorem trimLeft_any (a : Option Addr) (c : Nat) (bs : List UInt8) (w : World) (hnc : bs.length ≤ c) (hbig : c ≤ 9223372036854775807) (hs : BAt w a bs) :
    Calls Tryd.prog 11 #[.slice a bs.length c, .string ⟨#[48]⟩] w fun e w' => LzRes w bs e w' := by
  by_cases h0 : bs.length = 0
  · have hb : bs = [] := List.eq_nil_of_length_eq_zero h0
    subst hb
    refine (show Calls Tryd.prog 11 _ _ _ from Any.bytes_TrimLeft_none Tryd.laysV8 a c ⟨#[48]⟩ w).mono ?_
    rintro e w' ⟨rfl, rfl⟩
    exact ⟨none, 0, rfl, Nat.le_refl _, by omega, BAt.nil _ _, rfl⟩
  · refine (show Calls Tryd.prog 11 _ _ _ from Any.bytes_TrimLeft_one Tryd.laysV8 a bs.length c bs 48 w rfl hnc hbig hs.lib (by omega) (by decide)).mono ?_
    rintro e w' ⟨rfl, rfl⟩
    rw [lz_eq]
    have hl := lz_len bs
    have hd := lz_drop bs
    unfold Lib.leftV
    split
    · rename_i he
      have hz : lz bs = [] := List.eq_nil_of_length_eq_zero (by omega)
      exact ⟨none, 0, by rw [hz]; rfl, by rw [hz]; exact Nat.le_refl _, by omega, by rw [hz]; exact BAt.nil _ _, rfl⟩
    · rename_i he
      obtain ⟨g, o, rfl, _⟩ := hs 0 (bs[0]) (by simp)
      unfold Lib.fromV
      rw [if_neg (by omega)]
      refine ⟨some ⟨g, o + (bs.length - (lz bs).length), none⟩, c - (bs.length - (lz bs).length), ?_, by omega, by omega, ?_, rfl⟩
      · congr 2
        · simp only [Option.map_some, Option.some.injEq]
          unfold Addr.add
          split
          · rename_i h; simp [h]
          · rfl
        · omega
      · have h := hs.drop (bs.length - (lz bs).length)
        rw [← hd] at h
        exact h

theorem trimRight_any (a : Option Addr) (c : Nat) (bs : List UInt8) (w : World) (hnc : bs.length ≤ c) (hbig : c ≤ 9223372036854775807) (hs : BAt w a bs) :
    Calls Tryd.prog 10 #[.slice a bs.length c, .string ⟨#[48]⟩] w fun e w' => e = .returned (.slice a (rz bs).length c) ∧ w' = w := by
  by_cases h0 : bs.length = 0
  · have hb : bs = [] := List.eq_nil_of_length_eq_zero h0
    subst hb
    refine (show Calls Tryd.prog 10 _ _ _ from Any.bytes_TrimRight_empty Tryd.laysV7 a 0 c ⟨#[48]⟩ w (.inl rfl)).mono ?_
    rintro e w' ⟨rfl, rfl⟩
    exact ⟨rfl, rfl⟩
  · refine (show Calls Tryd.prog 10 _ _ _ from Any.bytes_TrimRight_one Tryd.laysV7 a bs.length c bs 48 w rfl hnc hbig hs.lib (by omega) (by decide)).mono ?_
    rintro e w' ⟨rfl, rfl⟩
    exact ⟨by rw [rz_eq], rfl⟩

theorem bytesOf_vals (bs : List UInt8) : Lib.bytesOf (bs.map fun b => (b.toNat : Int)) = bs := by
  unfold Lib.bytesOf
  rw [List.map_map]
  conv => rhs; rw [← List.map_id bs]
  congr 1
  funext b
  simp
theorem conv_any (a : Option Addr) (c : Nat) (bs : List UInt8) (w : World) (hs : BAt w a bs) : (convert 22 9 (.slice a bs.length c)).run Tryd.prog w = .ok (.string ⟨bs.toArray⟩) w := by
  by_cases h0 : bs.length = 0
  · have hb : bs = [] := List.eq_nil_of_length_eq_zero h0
    subst hb
    exact run_convert_bytes_zero w 22 5 Tryd.underlying22 Tryd.underlying5 a c 9 Tryd.underlying9
  · obtain ⟨g, o, rfl, _⟩ := hs 0 (bs[0]) (by simp)
    rw [run_convert_bytes_arg w 22 5 Tryd.underlying22 Tryd.underlying5 g o bs.length c (bs.map fun b => (b.toNat : Int)) (by simp) (fun i hi => ?_) 9 Tryd.underlying9]
    · have e : strOfNums (bs.map fun b => (b.toNat : Int)) = ⟨bs.toArray⟩ := by
        have h := bytesOf_vals bs
        unfold Lib.bytesOf at h
        unfold strOfNums
        rw [h]
      rw [e]
    · obtain ⟨g', o', e, hc⟩ := hs i (bs[i]) (by simp [hi])
      cases e
      rw [hc]
      simp [List.getD, hi]

theorem cell_new {w : World} {cs : Array Value} {t : TypeId} {fz : Nat × Nat} {k : Nat} {u : Value} (h : cs[k]? = some u) : (w.alloc (.cells cs t fz)).cell? ⟨w.heap.size, k, none⟩ = some u := by
  have hb : (w.alloc (.cells cs t fz)).heap[w.heap.size]? = some (.cells cs t fz) := heap_alloc_new w _
  simp only [World.cell?, hb]
  exact h
theorem atoi_any (x : List UInt8) (v : Int) (w : World) (hl : x.length ≤ 65536) (h : Lib.atoiAll x = .ok v) :
    Calls Tryd.prog 12 #[.string (Str x)] w fun e w' => e = .returned (.tuple #[.int .i64 v, .nilIface]) ∧ Below w.heap.size w w' := by
  refine (show Calls Tryd.prog 12 _ _ _ from Any.strconv_Atoi_ok Tryd.laysC172 (Str x) (by rw [str_size]; omega) v h w).mono ?_
  rintro e w' ⟨rfl, hw⟩
  refine ⟨rfl, ?_⟩
  rcases hw with rfl | ⟨t, rfl⟩
  · exact Below.refl _ _
  · exact ⟨rfl, rfl, rfl, by rw [Lib.bytesWorld_size]; omega, fun k hk => Lib.bytesWorld_at_old w _ t k hk⟩

/-- significand's answer but for the exponent. -/
def sigHi (wh fr : List UInt8) : List UInt8 := if wh = [48] then lz (rz fr) else if rz fr = [] then rz wh else wh
def sigLo (wh fr : List UInt8) : List UInt8 := if wh = [48] then [] else rz fr
def sigN (wh fr : List UInt8) : Int := if wh = [48] then ((lz (rz fr)).length : Int) - ((rz fr).length : Int) else (wh.length : Int)
def SigRes (wh fr : List UInt8) (v : Int) (w : World) (e : Ending) (w' : World) : Prop :=
  ∃ ah ch al cl, e = .returned (.tuple #[.slice ah (sigHi wh fr).length ch, .slice al (sigLo wh fr).length cl, .int .i64 (sigN wh fr + v)]) ∧ BAt w' ah (sigHi wh fr) ∧ BAt w' al (sigLo wh fr) ∧ Below w.heap.size w w'
/-- Behind the switch. -/
def SCut (wh fr : List UInt8) (w : World) (v2 v3 v4 : Value) (wx : World) : Prop :=
  ∃ ah ch al cl, v2 = .slice ah (sigHi wh fr).length ch ∧ v3 = .slice al (sigLo wh fr).length cl ∧ v4 = .int .i64 (sigN wh fr) ∧ BAt w ah (sigHi wh fr) ∧ BAt w al (sigLo wh fr) ∧ ∃ m, wx = w.drewN m
theorem rz_pre_at {w : World} {a : Option Addr} {x : List UInt8} (h : BAt w a x) : BAt w a (rz x) := by
  obtain ⟨z, e, _⟩ := rz_pre x
  rw [e] at h
  exact h.pre
theorem sigN_bound (wh fr : List UInt8) (h1 : wh.length ≤ 65536) (h2 : fr.length ≤ 65536) : -65536 ≤ sigN wh fr ∧ sigN wh fr ≤ 65536 := by
  unfold sigN
  have a := lz_len (rz fr)
  have b := rz_len fr
  split <;> omega
theorem below_drewN {B : Nat} {a b : World} (h : Below B a b) (n : Nat) : Below B a (b.drewN n) := h.trans ⟨rfl, rfl, rfl, Nat.le_refl _, fun _ _ => rfl⟩

set_option maxRecDepth 100000 in
set_option maxHeartbeats 4000000 in
theorem sig_any (aw af ae : Option Addr) (cw cf ce : Nat) (wh fr ex : List UInt8) (v : Int) (w : World) (lw : wh.length ≤ 65536) (lf : fr.length ≤ 65536) (le : ex.length ≤ 65536)
    (kw : wh.length ≤ cw) (kf : fr.length ≤ cf) (mw : cw ≤ 9223372036854775807) (mf : cf ≤ 9223372036854775807)
    (hw : BAt w aw wh) (hf : BAt w af fr) (he : BAt w ae ex) (hv : ExpV ex v) :
    Calls Tryd.prog 9 #[.agg #[.slice aw wh.length cw, .slice af fr.length cf, .slice ae ex.length ce]] w fun e w' => SigRes wh fr v w e w' := by
  go_enter Tryd.func9, Tryd.ntmps9
  go_wp2_with fail
  have hb1 : Below w.heap.size w (w.alloc (.cells #[.slice aw wh.length cw, .slice af fr.length cf, .slice ae ex.length ce] 31)) := (Below.refl _ _).alloc (Nat.le_refl _) _
  have hx : ∀ k u, (#[Value.slice aw wh.length cw, .slice af fr.length cf, .slice ae ex.length ce])[k]? = some u → (w.alloc (.cells #[.slice aw wh.length cw, .slice af fr.length cf, .slice ae ex.length ce] 31)).cell? ⟨w.heap.size, k, none⟩ = some u := fun k u hk => cell_new hk
  generalize hgw : (w.alloc (.cells #[.slice aw wh.length cw, .slice af fr.length cf, .slice ae ex.length ce] 31)) = w1 at *
  clear hgw
  have x0 := hx 0 _ rfl
  have x1 := hx 1 _ rfl
  have x2 := hx 2 _ rfl
  clear hx
  have hw1 := hw.later hb1
  have hf1 := hf.later hb1
  have he1 := he.later hb1
  clear hw hf he
  refine (trimRight_any af cf fr w1 kf mf hf1).mono ?_
  rintro e w2 ⟨rfl, rfl⟩
  have hcw := conv_any aw cw wh w2 hw1
  have hfr := rz_pre_at hf1
  have hlr := rz_len fr
  have hlw := rz_len wh
  have hll := lz_len (rz fr)
  simp only [List.getElem_toArray, List.getElem_cons_zero, List.getElem_cons_succ] at x0 x1 x2
  go_upto_block 0 with fail
  go_cut [2, 3, 4] (fun v2 v3 v4 wx => SCut wh fr w2 v2 v3 v4 wx)
  case first =>
    clear he1 hv x2
    by_cases h48 : wh = [48]
    · have hc48 : (wh == [48]) = true := by rw [h48]; rfl
      have e1 : sigHi wh fr = lz (rz fr) := by unfold sigHi; rw [if_pos h48]
      have e2 : sigLo wh fr = [] := by unfold sigLo; rw [if_pos h48]
      have e3 : sigN wh fr = ((lz (rz fr)).length : Int) - ((rz fr).length : Int) := by unfold sigN; rw [if_pos h48]
      have hT := trimLeft_any af cf (rz fr) w2 (by omega) mf hfr
      have HREL : Hid (∀ a c, BAt w2 a (lz (rz fr)) → SCut wh fr w2 (.slice a (lz (rz fr)).length c) (.slice none 0 0) (.int .i64 (((lz (rz fr)).length : Int) - ((rz fr).length : Int))) w2) := by
        show ∀ _ _, _ → _
        intro a c h
        unfold SCut
        rw [e1, e2, e3]
        exact ⟨a, c, none, 0, rfl, rfl, rfl, h, BAt.nil _ _, 0, rfl⟩
      have w3 : IntKind.i64.wrap (((lz (rz fr)).length : Int) - ((rz fr).length : Int)) = ((lz (rz fr)).length : Int) - ((rz fr).length : Int) := IntWalk.i64_in _ ⟨by omega, by omega⟩
      clear h48 e1 e2 e3
      go_wp2_with fail
      refine hT.mono ?_
      clear hT
      rintro e w4 ⟨a3, c3, rfl, -, -, q3, rfl⟩
      have HR := HREL.out a3 c3 q3
      have HR2 : Hid _ := HR
      clear HR HREL q3
      go_wp2
      go_meet
      exact HR2.out
    · have hc48 : (wh == [48]) = false := by rw [beq_eq_false_iff_ne]; exact h48
      have e3 : sigN wh fr = (wh.length : Int) := by unfold sigN; rw [if_neg h48]
      have e2 : sigLo wh fr = rz fr := by unfold sigLo; rw [if_neg h48]
      by_cases hF : rz fr = []
      · have e1 : sigHi wh fr = rz wh := by unfold sigHi; rw [if_neg h48, if_pos hF]
        have HREL : Hid (∀ n, SCut wh fr w2 (.slice aw (rz wh).length cw) (.slice none 0 0) (.int .i64 (wh.length : Int)) (w2.drewN n)) := by
          show ∀ _, _
          intro n
          unfold SCut
          rw [e1, e2, e3, hF]
          exact ⟨aw, cw, none, 0, rfl, rfl, rfl, rz_pre_at hw1, BAt.nil _ _, n, rfl⟩
        have z0 : (((rz fr).length : Int) == 0) = true := by rw [hF]; rfl
        have hwq : ∀ n, BAt (w2.drewN n) aw wh := fun n => hw1.later (below_drewN (Below.refl _ _) n)
        clear h48 e1 e2 e3 hF
        go_wp2
        go_quiet (first | (go_at_call 10; refine Calls.quiet_of_same (trimRight_any aw cw wh _ kw mw (hwq _))))
        go_wp2
        go_meet
        exact HREL.out _
      · have e1 : sigHi wh fr = wh := by unfold sigHi; rw [if_neg h48, if_neg hF]
        have HREL : Hid (∀ n, SCut wh fr w2 (.slice aw wh.length cw) (.slice af (rz fr).length cf) (.int .i64 (wh.length : Int)) (w2.drewN n)) := by
          show ∀ _, _
          intro n
          unfold SCut
          rw [e1, e2, e3]
          exact ⟨aw, cw, af, cf, rfl, rfl, rfl, hw1, hfr, n, rfl⟩
        have z0 : (((rz fr).length : Int) == 0) = false := by
          rw [beq_eq_false_iff_ne]
          have := List.length_pos_iff.2 hF
          omega
        clear h48 e1 e2 e3 hF
        go_wp2
        go_quiet (fail)
        go_wp2
        go_meet
        exact HREL.out _
  case rest =>
    obtain ⟨ah, ch, al, cl, rfl, rfl, rfl, qh, ql, m, hwc⟩ := hcut
    have hbd : Below w2.heap.size w2 wc := by rw [hwc]; exact below_drewN (Below.refl _ _) m
    have x2c := cell_later hbd x2
    have qhc := qh.later hbd
    have qlc := ql.later hbd
    have hec := he1.later hbd
    have hbc := below_step hb1 hbd
    have hnb := sigN_bound wh fr lw lf
    clear hwc hcw x0 x1 x2 hw1 hf1 he1 hfr hbd hb1 qh ql hlr hlw hll
    obtain ⟨v1, v2, hv3⟩ := hv
    by_cases hem : ex = []
    · have hv0 : v = 0 := by
        rcases hv3 with ⟨_, h⟩ | ⟨h, _⟩
        · exact h
        · exact absurd hem h
      have HFIN : Hid (SigRes wh fr v w (.returned (.tuple #[.slice ah (sigHi wh fr).length ch, .slice al (sigLo wh fr).length cl, .int .i64 (sigN wh fr)])) wc) := by
        refine ⟨ah, ch, al, cl, ?_, qhc, qlc, hbc⟩
        rw [hv0, Int.add_zero]
      have z0 : decide (0 < ex.length) = false := by rw [hem]; rfl
      clear hv3 hv0 hem qhc qlc hec hbc
      go_wp2
      go_ret3
      exact HFIN.out
    · have hok : Lib.atoiAll ex = .ok v := by
        rcases hv3 with ⟨h, _⟩ | ⟨_, h⟩
        · exact absurd h hem
        · exact h
      have hA := atoi_any ex v wc le hok
      have hce := conv_any ae ce ex wc hec
      have z0 : decide (0 < ex.length) = true := by simpa using List.length_pos_iff.2 hem
      have w5 : IntKind.i64.wrap (sigN wh fr + v) = sigN wh fr + v := IntWalk.i64_in _ ⟨by omega, by omega⟩
      clear hv3 hem hok
      go_wp2_with fail
      refine hA.mono ?_
      clear hA
      rintro e wz ⟨rfl, hbz⟩
      have HFIN : Hid (SigRes wh fr v w (.returned (.tuple #[.slice ah (sigHi wh fr).length ch, .slice al (sigLo wh fr).length cl, .int .i64 (sigN wh fr + v)])) wz) := ⟨ah, ch, al, cl, rfl, qhc.later hbz, qlc.later hbz, below_step hbc hbz⟩
      clear qhc qlc hec hbc hbz hce x2c
      go_wp2
      go_ret3
      exact HFIN.out

end Go.Proofs.Qxb6601221aDoor
