/-
  Seat b6600715aD: the walk of decimal. By an AI agent (seat 043).
-/
import Derived.Test.Qxb6600715aDoorW6
import Derived.Deep.RegionHeld3
import Derived.Deep.RegionWith
import Derived.Deep.Cut
import Derived.Deep.DeepCutAuto
import Derived.Lib.SlBytesConst
set_option linter.unusedSimpArgs false
set_option linter.unusedVariables false
namespace Go.Proofs.Qxb6600715aDoor
open Go.RowKit

theorem conv_any (a : Option Addr) (c : Nat) (bs : List UInt8) (w : World) (hs : BAt w a bs) : (convert 22 9 (.slice a bs.length c)).run Tryd.prog w = .ok (.string ⟨bs.toArray⟩) w := by
  by_cases h0 : bs.length = 0
  · have hb : bs = [] := List.eq_nil_of_length_eq_zero h0
    subst hb
    exact run_convert_bytes_zero w 22 5 Tryd.underlying22 Tryd.underlying5 a c 9 Tryd.underlying9
  · obtain ⟨g, o, rfl, _⟩ := hs 0 (bs[0]) (by simp)
    rw [run_convert_bytes_arg w 22 5 Tryd.underlying22 Tryd.underlying5 g o bs.length c (bs.map fun b => (b.toNat : Int)) (by simp) (fun i hi => ?_) 9 Tryd.underlying9]
    · have e : strOfNums (bs.map fun b => (b.toNat : Int)) = ⟨bs.toArray⟩ := by
        have h := bytesOf_vals bs
        unfold Lib.bytesOf at h
        unfold strOfNums
        rw [h]
      rw [e]
    · obtain ⟨g', o', e, hc⟩ := hs i (bs[i]) (by simp [hi])
      cases e
      rw [hc]
      simp [List.getD, hi]

theorem cell_new {w : World} {cs : Array Value} {t : TypeId} {fz : Nat × Nat} {k : Nat} {u : Value} (h : cs[k]? = some u) : (w.alloc (.cells cs t fz)).cell? ⟨w.heap.size, k, none⟩ = some u := by
  have hb : (w.alloc (.cells cs t fz)).heap[w.heap.size]? = some (.cells cs t fz) := heap_alloc_new w _
  simp only [World.cell?, hb]
  exact h
theorem str_cons (c : UInt8) (l : List UInt8) : (⟨#[c]⟩ : ByteArray) ++ ⟨l.toArray⟩ = ⟨(c :: l).toArray⟩ := by
  apply ByteArray.ext
  rw [ByteArray.data_append]
  simp
theorem count_strip (fr : List UInt8) : (fr.length : Int) - ((fr.count 95 : Nat) : Int) = ((strip fr).length : Int) := by
  induction fr with
  | nil => rfl
  | cons b r ih =>
    by_cases h : b = 95
    · subst h
      have e : strip (95 :: r) = strip r := by simp [strip]
      rw [e, List.count_cons_self, List.length_cons]
      omega
    · have e : strip (b :: r) = b :: strip r := by simp [strip, h]
      rw [e, List.count_cons_of_ne (by simpa using h), List.length_cons, List.length_cons]
      omega
abbrev Str (l : List UInt8) : ByteArray := ⟨l.toArray⟩
def decFin (neg : Bool) (m : List UInt8) (places : Nat) (e : Int) : ByteArray × Int × Bool :=
  (Str (if neg then 45 :: rz m else rz m), e + ((m.length : Int) - ((rz m).length : Int) - (places : Int)), true)
/-- What decimal answers. -/
def dec (neg : Bool) (wh fr : List UInt8) (ex : Option (List UInt8)) : ByteArray × Int × Bool :=
  if lz (strip wh ++ strip fr) = [] then (Str [48], 0, true)
  else match ex with
    | none => decFin neg (lz (strip wh ++ strip fr)) (strip fr).length 0
    | some x => match expOf (strip x) with
      | none => (Str [], 0, false)
      | some p => decFin neg (lz (strip wh ++ strip fr)) (strip fr).length p
def DecRes (r : ByteArray × Int × Bool) (w : World) (e : Ending) (w' : World) : Prop := e = .returned (.tuple #[.string r.1, .int .i64 r.2.1, .bool r.2.2]) ∧ Below w.heap.size w w'
def optOf (a : Option Addr) (l : List UInt8) : Option (List UInt8) := if a.isNone then none else some l

/-- Behind the exponent. -/
def Cut1 (r : ByteArray × Int × Bool) (neg : Bool) (m : List UInt8) (pl : Nat) (w3 : World) (v3 : Value) (wx : World) : Prop :=
  ∃ p : Int, v3 = .int .i64 p ∧ -4611686018427387904 ≤ p ∧ p ≤ 4611686018427387904 ∧ r = decFin neg m pl p ∧ Below w3.heap.size w3 wx

set_option maxRecDepth 100000 in
set_option maxHeartbeats 4000000 in
theorem decimal_any (neg : Bool) (aw af ae : Option Addr) (cw cf ce : Nat) (wh fr ex : List UInt8) (w : World) (lw : wh.length ≤ 131072) (lf : fr.length ≤ 131072) (le : ex.length ≤ 131072)
    (hw : BAt w aw wh) (hf : BAt w af fr) (he : BAt w ae ex) (hnf : af = none → fr.length = 0 ∧ cf = 0) (hE : Errs w) :
    Calls Tryd.prog 19 #[.agg #[.bool neg, .slice aw wh.length cw, .slice af fr.length cf, .slice ae ex.length ce]] w fun e w' => DecRes (dec neg wh fr (optOf ae ex)) w e w' := by
  go_enter Tryd.func19, Tryd.ntmps19
  go_wp2_with fail
  have hb2 : Below w.heap.size w ((w.alloc (.cells #[.bool neg, .slice aw wh.length cw, .slice af fr.length cf, .slice ae ex.length ce] 37)).alloc (.cells #[.slice aw wh.length cw, .slice af fr.length cf] 22)) :=
    ((Below.refl _ _).alloc (Nat.le_refl _) _).alloc (by simp) _
  have hx : ∀ k u, (#[Value.bool neg, .slice aw wh.length cw, .slice af fr.length cf, .slice ae ex.length ce])[k]? = some u → ((w.alloc (.cells #[.bool neg, .slice aw wh.length cw, .slice af fr.length cf, .slice ae ex.length ce] 37)).alloc (.cells #[.slice aw wh.length cw, .slice af fr.length cf] 22)).cell? ⟨w.heap.size, k, none⟩ = some u := fun k u hk =>
    cell_later ((Below.refl _ _).alloc (Nat.le_refl _) _) (cell_new hk)
  have hp : PartsAt ((w.alloc (.cells #[.bool neg, .slice aw wh.length cw, .slice af fr.length cf, .slice ae ex.length ce] 37)).alloc (.cells #[.slice aw wh.length cw, .slice af fr.length cf] 22)) (w.heap.size + 1) [(aw, wh.length, cw, wh), (af, fr.length, cf, fr)] := by
    intro k p hk
    have hn : ∀ u, (#[Value.slice aw wh.length cw, .slice af fr.length cf])[k]? = some u → ((w.alloc (.cells #[.bool neg, .slice aw wh.length cw, .slice af fr.length cf, .slice ae ex.length ce] 37)).alloc (.cells #[.slice aw wh.length cw, .slice af fr.length cf] 22)).cell? ⟨w.heap.size + 1, k, none⟩ = some u := fun u hu => by
      have := cell_new (w := w.alloc (.cells #[.bool neg, .slice aw wh.length cw, .slice af fr.length cf, .slice ae ex.length ce] 37)) (t := 22) (fz := (0, 0)) hu
      simpa using this
    match k, hk with
    | 0, hk => cases hk; exact ⟨hn _ rfl, rfl, lw, hw.later hb2⟩
    | 1, hk => cases hk; exact ⟨hn _ rfl, rfl, lf, hf.later hb2⟩
    | k + 2, hk => simp at hk
  have hW := without_any (w.heap.size + 1) 2 _ _ (by simp) hp
  generalize hgw : ((w.alloc (.cells #[.bool neg, .slice aw wh.length cw, .slice af fr.length cf, .slice ae ex.length ce] 37)).alloc (.cells #[.slice aw wh.length cw, .slice af fr.length cf] 22)) = w2 at *
  clear hgw hp
  refine hW.mono ?_
  have hall : allB [(aw, wh.length, cw, wh), (af, fr.length, cf, fr)] = strip wh ++ strip fr := by simp [allB]
  rw [hall]
  clear hW hall
  rintro e w3 ⟨a1, c1, rfl, hc1, hc2, hat1, hb3⟩
  have hlm : (strip wh ++ strip fr).length ≤ 262144 := by
    have := strip_len_le wh
    have := strip_len_le fr
    simp; omega
  have hT := trimLeft_any a1 c1 _ w3 hc1 hc2 hat1
  generalize hm : strip wh ++ strip fr = m0 at *
  have HM : Hid (strip wh ++ strip fr = m0) := hm
  clear hm
  clear hc1 hc2 hat1
  go_wp2_with fail
  refine hT.mono ?_
  clear hT
  rintro e w3' ⟨a2, c2, rfl, hc1, hc2, hat2, rfl⟩
  have hl2 := lz_len m0
  generalize hlz : lz m0 = m at *
  have HLZ : Hid (lz (strip wh ++ strip fr) = m) := by
    show _ = _
    rw [HM.out]; exact hlz
  clear hlz
  have hb03 := below_step hb2 hb3
  by_cases hm0 : m = []
  · subst hm0
    have HFIN : Hid (DecRes (dec neg wh fr (optOf ae ex)) w (.returned (.tuple #[.string ⟨#[48]⟩, .int .i64 0, .bool true])) w3') := by
      refine ⟨?_, hb03⟩
      unfold dec
      rw [if_pos HLZ.out]
    clear hb03 hat2 hx hb2 hb3
    go_wp2
    go_ret3
    exact HFIN.out
  · have hmp : 0 < m.length := List.length_pos_iff.2 hm0
    have hbq : ((m.length : Int) == 0) = false := by rw [beq_eq_false_iff_ne]; omega
    have x0 := cell_later hb3 (hx 0 _ rfl)
    have x1 := cell_later hb3 (hx 1 _ rfl)
    have x2 := cell_later hb3 (hx 2 _ rfl)
    have x3 := cell_later hb3 (hx 3 _ rfl)
    have hlr := rz_len m
    have hatr : BAt w3' a2 (rz m) := by
      obtain ⟨zz, hzz, _⟩ := rz_pre m
      rw [hzz] at hat2
      exact hat2.pre
    have HDEC : Hid (dec neg wh fr (optOf ae ex) = match optOf ae ex with
        | none => decFin neg m (strip fr).length 0
        | some x => match expOf (strip x) with
          | none => (Str [], 0, false)
          | some p => decFin neg m (strip fr).length p) := by
      show _ = _
      unfold dec
      rw [if_neg (by rw [HLZ.out]; exact hm0), HLZ.out]
    go_upto_if 22 with fail
    go_cut [3, 6, 7] (fun v3 _ _ wx => Cut1 (dec neg wh fr (optOf ae ex)) neg m (strip fr).length w3' v3 wx)
    case first =>
      cases ae with
      | none =>
        have HREL : Hid (Cut1 (dec neg wh fr (optOf none ex)) neg m (strip fr).length w3' (.int .i64 0) w3') := ⟨0, rfl, by omega, by omega, by rw [HDEC.out]; rfl, Below.refl _ _⟩
        clear HDEC
        go_wp2
        go_meet
        exact HREL.out
      | some ade =>
        have hb4 : Below w3'.heap.size w3' (w3'.alloc (.cells #[.slice (some ade) ex.length ce] 22)) := (Below.refl _ _).alloc (Nat.le_refl _) _
        have hp : PartsAt (w3'.alloc (.cells #[.slice (some ade) ex.length ce] 22)) w3'.heap.size [(some ade, ex.length, ce, ex)] := by
          intro k p hk
          match k, hk with
          | 0, hk => cases hk; exact ⟨cell_new rfl, rfl, le, (he.later hb03).later hb4⟩
          | k + 1, hk => simp at hk
        have hW := without_any w3'.heap.size 1 _ _ (by simp) hp
        have hall : allB [(some ade, ex.length, ce, ex)] = strip ex := by simp [allB]
        rw [hall] at hW
        clear hall hp
        go_wp2_with fail
        refine hW.mono ?_
        clear hW
        rintro e w5 ⟨a3, c3, rfl, _, _, hat3, hb5⟩
        have hcv := conv_any a3 c3 (strip ex) w5 hat3
        have hb35 := below_step hb4 hb5
        have hsl := strip_len_le ex
        have hPI := parseInt_any (Str (strip ex)) w5 ((hE.later hb03).later hb35) (by simp [ByteArray.size]; omega)
        clear hat3 hb4 hb5 hat2 hatr
        go_wp2_with fail
        refine hPI.mono ?_
        clear hPI hcv
        rintro e w6 ⟨hres, hb6⟩
        have hb36 := below_step hb35 hb6
        have hopt : optOf (some ade) ex = some ex := rfl
        have HD2 : Hid (dec neg wh fr (optOf (some ade) ex) = match expOf (strip ex) with
          | none => (Str [], 0, false)
          | some p => decFin neg m (strip fr).length p) := HDEC.out
        clear HDEC hopt
        have hexp : expOf (strip ex) = match Lib.parseIntB 64 (strip ex) with
          | .ok v => if -4611686018427387904 ≤ v ∧ v ≤ 4611686018427387904 then some v else none
          | _ => none := rfl
        cases hr : Lib.parseIntB 64 (strip ex) with
        | ok v =>
          rw [hr] at hres hexp
          simp only at hres hexp
          subst hres
          by_cases hlo : v < -4611686018427387904
          · rw [if_neg (by omega)] at hexp
            have HFIN : Hid (DecRes (dec neg wh fr (optOf (some ade) ex)) w (.returned (.tuple #[.string ⟨#[]⟩, .int .i64 0, .bool false])) w6) := ⟨by rw [HD2.out, hexp], below_step hb03 hb36⟩
            clear hexp hr HD2
            go_wp2
            go_ret3
            exact HFIN.out
          · by_cases hhi : 4611686018427387904 < v
            · rw [if_neg (by omega)] at hexp
              have HFIN : Hid (DecRes (dec neg wh fr (optOf (some ade) ex)) w (.returned (.tuple #[.string ⟨#[]⟩, .int .i64 0, .bool false])) w6) := ⟨by rw [HD2.out, hexp], below_step hb03 hb36⟩
              clear hexp hr HD2
              go_wp2
              go_ret3
              exact HFIN.out
            · rw [if_pos (by omega)] at hexp
              have HREL : Hid (Cut1 (dec neg wh fr (optOf (some ade) ex)) neg m (strip fr).length w3' (.int .i64 v) w6) := ⟨v, rfl, by omega, by omega, by rw [HD2.out, hexp], hb36⟩
              clear hexp hr HD2
              go_wp2
              go_meet
              exact HREL.out
        | «syntax» =>
          rw [hr] at hres hexp
          simp only at hres hexp
          obtain ⟨v, t, p, rfl⟩ := hres
          have HFIN : Hid (DecRes (dec neg wh fr (optOf (some ade) ex)) w (.returned (.tuple #[.string ⟨#[]⟩, .int .i64 0, .bool false])) w6) := ⟨by rw [HD2.out, hexp], below_step hb03 hb36⟩
          clear hexp hr HD2
          go_wp2
          go_ret3
          exact HFIN.out
        | range =>
          rw [hr] at hres hexp
          simp only at hres hexp
          obtain ⟨v, t, p, rfl⟩ := hres
          have HFIN : Hid (DecRes (dec neg wh fr (optOf (some ade) ex)) w (.returned (.tuple #[.string ⟨#[]⟩, .int .i64 0, .bool false])) w6) := ⟨by rw [HD2.out, hexp], below_step hb03 hb36⟩
          clear hexp hr HD2
          go_wp2
          go_ret3
          exact HFIN.out
    case rest =>
      clear HDEC
      obtain ⟨p, rfl, hp1, hp2, hdec, hb34⟩ := hcut
      have HDEC : Hid (dec neg wh fr (optOf ae ex) = decFin neg m (strip fr).length p) := hdec
      clear hdec
      have hTR := trimRight_any a2 c2 m wc hc1 hc2 hmp (hat2.later hb34)
      have hatr4 := hatr.later hb34
      have hb04 := below_step hb03 hb34
      have hfr := hf.later hb04
      have y0 := cell_later hb34 x0
      have y2 := cell_later hb34 x2
      clear x0 x1 x2 x3 hat2 hatr
      have hkc : (convert 22 22 (.slice (some ⟨wc.heap.size, 0, none⟩) 1 1)).run Tryd.prog (wc.alloc (.cells #[.int .u8 95] 5)).drew = .ok (.slice (some ⟨wc.heap.size, 0, none⟩) 1 1) (wc.alloc (.cells #[.int .u8 95] 5 (1, 2))).drew :=
        Lib.run_convert_bytes_const (P := Tryd.prog) wc.drew 22 5 #[.int .u8 95] 1 1 Tryd.underlying22 Tryd.underlying5
      have hb5 : Below wc.heap.size wc (wc.alloc (.cells #[.int .u8 95] 5 (1, 2))).drew := ((Below.refl _ _).alloc (Nat.le_refl _) _).drew
      have hc95 : (wc.alloc (.cells #[.int .u8 95] 5 (1, 2))).drew.cell? ⟨wc.heap.size, 0, none⟩ = some (.int .u8 95) := cell_new (w := wc) (k := 0) rfl
      have hCT := count_any af cf fr wc.heap.size 0 1 _ hnf (hfr.later hb5) hc95
      have z0 := cell_later hb5 y0
      have z2 := cell_later hb5 y2
      have zz2 := cell_later (((Below.refl _ wc).alloc (Nat.le_refl _) (.cells #[.int .u8 95] 5)).drew) y2
      have hbF := below_step hb04 hb5
      have hcn : (fr.length : Int) - ((fr.count 95 : Nat) : Int) = ((strip fr).length : Int) := count_strip fr
      have hsf := strip_len_le fr
      go_upto_region 10 with (go_at_call 23; refine hTR.mono ?_; rintro e w4 ⟨rfl, rfl⟩)
      go_cut [9] (fun v9 wx => v9 = .int .i64 ((strip fr).length : Int) ∧ wx = (w4.alloc (.cells #[.int .u8 95] 5 (1, 2))).drew)
      case first =>
        go_region_with (go_at_call 24; refine hCT.mono ?_; rintro e w5 ⟨rfl, rfl⟩)
        all_goals (go_wp2_with fail; go_meet)
        all_goals (refine ⟨?_, rfl⟩; rw [IntWalk.i64_in _ ⟨by omega, by omega⟩])
      case rest =>
        obtain ⟨rfl, rfl⟩ := hcut
        have hcv := conv_any a2 c2 (rz m) _ (hatr4.later hb5)
        have e1 : IntKind.i64.wrap ((m.length : Int) - ((rz m).length : Int)) = (m.length : Int) - ((rz m).length : Int) := IntWalk.i64_in _ ⟨by omega, by omega⟩
        have e2 : IntKind.i64.wrap ((m.length : Int) - ((rz m).length : Int) - ((strip fr).length : Int)) = (m.length : Int) - ((rz m).length : Int) - ((strip fr).length : Int) := IntWalk.i64_in _ ⟨by omega, by omega⟩
        have e3 : IntKind.i64.wrap (p + ((m.length : Int) - ((rz m).length : Int) - ((strip fr).length : Int))) = p + ((m.length : Int) - ((rz m).length : Int) - ((strip fr).length : Int)) := IntWalk.i64_in _ ⟨by omega, by omega⟩
        cases neg with
        | true =>
          clear hCT hkc hTR
          go_wp2
          go_ret3
          refine ⟨?_, hbF⟩
          rw [HDEC.out]
          exact congrArg (fun x => Ending.returned (.tuple #[.string x, .int .i64 (p + ((m.length : Int) - ((rz m).length : Int) - ((strip fr).length : Int))), .bool true])) (str_cons 45 (rz m))
        | false =>
          clear hCT hkc hTR
          go_wp2
          go_ret3
          refine ⟨?_, hbF⟩
          rw [HDEC.out]
          rfl

end Go.Proofs.Qxb6600715aDoor
