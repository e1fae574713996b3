/-
  Seat b6600314aD: components on a graph whose edges lead back. By an AI agent (seat 043).
-/
import Derived.Test.Qxb6600314aDoorC2
set_option linter.unusedSimpArgs false
set_option linter.unusedVariables false
namespace Go.Proofs.Qxb6600314aDoor
open Go.RowKit

abbrev fo (n r : Nat) : List Value := fillV (nums (fun i => i + 1) n) (.int .i64 0) n r
abbrev fcm (n r : Nat) : List Value := fillV (nums (fun i => i) n) (.int .i64 0) n r
/-- The loop over roots. -/
def CRel (K : Ks) (n : Nat) (w0 : World) (f i : Value) (wr : World) : Prop :=
  ∃ (r : Nat) (vs vc : Value), r ≤ n ∧ i = .int .i64 (r : Int) ∧ f = .int .i64 (r : Int) ∧ St K n (fo n r) (fo n r) (List.replicate n (.bool false)) (fcm n r) r vs [] vc 0 [] wr ∧ Below w0.heap.size w0 wr ∧ K.B ≤ wr.heap.size

theorem fill_get_ge (xs : List Value) (z : Value) (n k j : Nat) (hj : k ≤ j) (hn : j < n) (hx : xs.length = n) : (fillV xs z n k)[j]? = some z := by
  unfold fillV
  rw [List.getElem?_append_right (by simp; omega), List.getElem?_replicate, if_pos (by simp; omega)]
theorem fo_set (n r : Nat) (h : r < n) : (fo n r).set r (.int .i64 ((r : Int) + 1)) = fo n (r + 1) := set_fill (fun i => i + 1) n r h
theorem fcm_set (n r : Nat) (h : r < n) : (fcm n r).set r (.int .i64 (r : Int)) = fcm n (r + 1) := set_fill (fun i => i) n r h

/-- What is left of the walk at the top of the calls. -/
def todo (x gc : Nat) (wr : World) : Nat := match wr.cell? ⟨gc, 1, none⟩ with | some (.int _ q) => x - q.toNat | _ => 0
theorem todo_at {x gc : Nat} {wr : World} {k : IntKind} {q : Int} (h : wr.cell? ⟨gc, 1, none⟩ = some (.int k q)) : todo x gc wr = x - q.toNat := by simp [todo, h]

abbrev stackOf (gs n cps : Nat) : Value := .slice (some ⟨gs, 0, none⟩) n cps
def stA (K : Ks) (n r gs cps gc cpc q : Nat) (wr : World) : Prop :=
  St K n (fo n (r + 1)) (fo n (r + 1)) ((List.replicate n (.bool false)).set r (.bool true)) (fcm n r) (r + 1) (stackOf gs 1 cps) [r] (stackOf gc 1 cpc) 1 [.int .i64 (r : Int), .int .i64 (q : Int)] wr
def stB (K : Ks) (n r gs cps gc cpc : Nat) (wr : World) : Prop :=
  St K n (fo n (r + 1)) (fo n (r + 1)) (List.replicate n (.bool false)) (fcm n (r + 1)) (r + 1) (stackOf gs 0 cps) [] (stackOf gc 0 cpc) 0 [] wr
/-- The walk from one root: on its way, or done. -/
def C2Rel (K : Ks) (n r gs cps gc cpc len : Nat) (w0 : World) (f : Value) (wr : World) : Prop :=
  (∃ q, q ≤ len ∧ f = .int .i64 (r : Int) ∧ stA K n r gs cps gc cpc q wr ∧ Below w0.heap.size w0 wr) ∨ (f = .int .i64 ((r : Int) + 1) ∧ stB K n r gs cps gc cpc wr ∧ todo len gc wr = 0 ∧ Below w0.heap.size w0 wr)

theorem owns_cut {w : World} {B : Nat} {e : TypeId} {size g n cap : Nat} {xs : List Value} (h : w.ownsRow B e size (.slice (some ⟨g, 0, none⟩) n cap) n xs) : w.ownsRow B e size (.slice (some ⟨g, 0, none⟩) 0 cap) 0 [] := by
  refine ⟨by simp, .inr ?_⟩
  rcases h.2 with ⟨h', _⟩ | ⟨g', cap', cur, h', hb, hg, hnc, hcm, hcs, _⟩
  · simp at h'
  · simp only [Value.slice.injEq, Option.some.injEq, Addr.mk.injEq, and_true, true_and] at h'
    obtain ⟨rfl, rfl⟩ := h'
    exact ⟨g, cap, cur, rfl, hb, hg, Nat.zero_le _, hcm, hcs, by simp⟩

theorem stA.next {K : Ks} {N n r gs cps gc cpc q : Nat} {wr : World} (h : stA K n r gs cps gc cpc q wr) (hK : K.Ok N) : stA K n r gs cps gc cpc (q + 1) (wr.setCell ⟨gc, 1, none⟩ (.int .i64 ((q : Int) + 1))) := by
  have hgc := (h.rv.lt gc rfl).1
  have hne : gs ≠ gc := fun e => apart_rows h.rk h.rv gs rfl (by rw [e]; rfl)
  obtain ⟨h1, h2, h3, h4, h5, h6, h7, h8, h9, h10, h11⟩ := hK
  have hk : Kept [gc] wr (wr.setCell ⟨gc, 1, none⟩ (.int .i64 ((q : Int) + 1))) := Kept.setCell (by simp) _
  exact ⟨blk h.bo hk (by simp; omega), blk h.bl hk (by simp; omega), blk h.bs hk (by simp; omega), blk h.bk hk (by simp; omega), blk h.bm hk (by simp; omega), blk h.bc hk (by simp; omega),
    h.ro.kept hk (by simp; omega), h.rl.kept hk (by simp; omega), h.rs.kept hk (by simp; omega), h.rc.kept hk (by simp; omega), owns_kept h.rk hk (fun g hg => by simp [Value.ownBlock] at hg; subst hg; simpa using hne), (h.rv.stored 1 _).1⟩
theorem stA.done {K : Ks} {N n r gs cps gc cpc q : Nat} {wr : World} (h : stA K n r gs cps gc cpc q wr) (hK : K.Ok N) (hr : r < n) (m : Nat) :
    stB K n r gs cps gc cpc (((((wr.setCell ⟨K.c, 0, none⟩ (stackOf gc 0 cpc)).drewN m).setCell ⟨K.k, 0, none⟩ (stackOf gs 0 cps)).setCell ⟨K.S, r, none⟩ (.bool false)).setCell ⟨K.C, r, none⟩ (.int .i64 (r : Int))) := by
  have h1 := (h.setV hK (stackOf gc 0 cpc) 0 [] (owns_cut h.rv)).drewN m
  have h2 := h1.setK hK (stackOf gs 0 cps) [] (owns_cut h1.rk)
  have h3 := (h2.setS hK r (.bool false)).setC hK r (.int .i64 (r : Int))
  rw [fcm_set n r hr, List.set_set] at h3
  have e : (List.replicate n (Value.bool false)).set r (.bool false) = List.replicate n (.bool false) := by
    apply List.ext_getElem (by simp)
    intro i h1 h2
    simp [List.getElem_set]
  rw [e] at h3
  exact h3

set_option maxRecDepth 100000 in
set_option maxHeartbeats 4000000 in
theorem components_any (a : Option Addr) (cap : Nat) (xs : List Value) (R : List (List Nat)) (n : Nat) (w : World) (hR : R.length = n) (hn : n ≤ 1024) (hlen : ∀ x ∈ R, x.length ≤ 1024) (hback : ∀ (i : Nat) (x : List Nat), R[i]? = some x → ∀ j ∈ x, j < i)
    (ha : Sees w [] a xs) (hr : RowsSee w [] xs R) :
    Calls Tryd.prog 20 #[.slice a n cap] w fun e w' => IntRes [] w (List.range n) e w' := by
  obtain ⟨t3, hi3, hz30, hz31, hz32⟩ := info_parts info3
  obtain ⟨t4, hi4, hz40, hz41, hz42⟩ := info_parts info4
  go_enter Tryd.func20, Tryd.ntmps20
  go_wp2_with (first
    | (at_make; refine wpList_make_full _ rfl (.tmp 21) (.tmp 21) 35 rfl w.heap.size 3 t3 (.int .i64 0) 1 Tryd.underlying35 hi3 hz30 hz31 .i64 .i64 _ _ n rfl rfl rfl rfl (by rw [hz32]; omega) (by unfold maxLen; omega) (Nat.le_refl _) ?_; intro w1 ho1 hg1)
    | (at_make; refine wpList_make_full _ rfl (.tmp 23) (.tmp 23) 35 rfl (w1.heap.size + 1) 3 t3 (.int .i64 0) 1 Tryd.underlying35 hi3 hz30 hz31 .i64 .i64 _ _ n rfl rfl rfl rfl (by rw [hz32]; omega) (by unfold maxLen; omega) (by simp) ?_; intro w2 ho2 hg2)
    | (at_make; refine wpList_make_full _ rfl (.tmp 25) (.tmp 25) 48 rfl (w2.heap.size + 1) 4 t4 (.bool false) 1 Tryd.underlying48 hi4 hz40 hz41 .i64 .i64 _ _ n rfl rfl rfl rfl (by rw [hz42]; omega) (by unfold maxLen; omega) (by simp) ?_; intro w3 ho3 hg3)
    | (at_make; refine wpList_make_full _ rfl (.tmp 27) (.tmp 27) 35 rfl (w3.heap.size + 1) 3 t3 (.int .i64 0) 1 Tryd.underlying35 hi3 hz30 hz31 .i64 .i64 _ _ n rfl rfl rfl rfl (by rw [hz32]; omega) (by unfold maxLen; omega) (by simp) ?_; intro w4 ho4 hg4))
  obtain ⟨K, e1, e2, e3, e4, e5, e6, e7, e8, e9, e10, e11⟩ : ∃ K : Ks, K.O = w.heap.size ∧ K.o = w1.heap.size ∧ K.L = w1.heap.size + 1 ∧ K.l = w2.heap.size ∧ K.S = w2.heap.size + 1 ∧ K.s = w3.heap.size ∧ K.C = w3.heap.size + 1 ∧
      K.k = w4.heap.size ∧ K.m = w4.heap.size + 1 ∧ K.c = w4.heap.size + 1 + 1 ∧ K.B = w4.heap.size + 1 + 1 + 1 :=
    ⟨⟨w.heap.size, w1.heap.size, w1.heap.size + 1, w2.heap.size, w2.heap.size + 1, w3.heap.size, w3.heap.size + 1, w4.heap.size, w4.heap.size + 1, w4.heap.size + 1 + 1, w4.heap.size + 1 + 1 + 1⟩, rfl, rfl, rfl, rfl, rfl, rfl, rfl, rfl, rfl, rfl, rfl⟩
  have lt1 : w.heap.size < w1.heap.size := (ho1.lt _ rfl).2
  have lt2 : w1.heap.size + 1 < w2.heap.size := by have h := (ho2.lt _ rfl).2; simpa using h
  have lt3 : w2.heap.size + 1 < w3.heap.size := by have h := (ho3.lt _ rfl).2; simpa using h
  have lt4 : w3.heap.size + 1 < w4.heap.size := by have h := (ho4.lt _ rfl).2; simpa using h
  have hK : K.Ok w.heap.size := ⟨by omega, by omega, by omega, by omega, by omega, by omega, by omega, by omega, by omega, by omega, by omega⟩
  have gb : ∀ {x y : World}, x.grownBy y none → Below x.heap.size x y := fun {x y} h => (Below.refl _ _).grown h (Nat.le_refl _) (fun k h => by cases h)
  have ga : ∀ (x : World) (o : Obj), Below x.heap.size x (x.alloc o) := fun x o => (Below.refl _ _).alloc (Nat.le_refl _) o
  have q5 : Below w4.heap.size w4 (((w4.alloc (Obj.cells #[Value.slice none 0 0] 35)).alloc (Obj.cells #[Value.int IntKind.i64 0] 3)).alloc (Obj.cells #[Value.slice none 0 0] 52)) := below_step (below_step (ga _ _) (ga _ _)) (ga _ _)
  have q4 := below_step (gb hg4) q5
  have q3 := below_step (gb hg3) (below_step (ga _ _) q4)
  have q2 := below_step (gb hg2) (below_step (ga _ _) q3)
  have q1 := below_step (gb hg1) (below_step (ga _ _) q2)
  have hst : St K n (fo n 0) (fo n 0) (List.replicate n (.bool false)) (fcm n 0) 0 (.slice none 0 0) [] (.slice none 0 0) 0 [] (((w4.alloc (Obj.cells #[Value.slice none 0 0] 35)).alloc (Obj.cells #[Value.int IntKind.i64 0] 3)).alloc (Obj.cells #[Value.slice none 0 0] 52)) := by
    have z3 : ∀ f : Nat → Nat, (madeCells (Value.int .i64 0).cells (n * 1)).toList = fillV (nums f n) (.int .i64 0) n 0 := fun f => by rw [fillV_zero]; simp [toList_madeCells_one, Value.cells]
    have zb : (madeCells (Value.bool false).cells (n * 1)).toList = List.replicate n (.bool false) := by simp [toList_madeCells_one, Value.cells]
    rw [z3 (fun i => i + 1)] at ho1 ho2
    rw [zb] at ho3
    rw [z3 (fun i => i)] at ho4
    refine ⟨?_, ?_, ?_, ?_, ?_, ?_, ?_, ?_, ?_, ?_, World.ownsRow_nil _ _ _ _, World.ownsRow_nil _ _ _ _⟩
    · rw [e2, e1]; exact blk (X := []) (heap_alloc_new w1 _) (Kept.of_below q2) (by simp)
    · rw [e4, e3]; exact blk (X := []) (by simpa using heap_alloc_new w2 _) (Kept.of_below q3) (by simp)
    · rw [e6, e5]; exact blk (X := []) (by simpa using heap_alloc_new w3 _) (Kept.of_below q4) (by simp)
    · rw [e8]; exact blk (X := []) (heap_alloc_new w4 _) (Kept.of_below (below_step (ga _ _) (ga _ _))) (by simp)
    · rw [e9]; exact blk (X := []) (by simpa using heap_alloc_new (w4.alloc (Obj.cells #[Value.slice none 0 0] 35)) (Obj.cells #[Value.int IntKind.i64 0] 3)) (Kept.of_below (ga _ _)) (by simp)
    · rw [e10]; simpa using heap_alloc_new ((w4.alloc (Obj.cells #[Value.slice none 0 0] 35)).alloc (Obj.cells #[Value.int IntKind.i64 0] 3)) (Obj.cells #[Value.slice none 0 0] 52)
    · rw [e1]; exact owns_later ho1 (below_step (ga _ _) q2)
    · rw [e3]; exact owns_later (by simpa using ho2) (below_step (ga _ _) q3)
    · rw [e5]; exact owns_later (by simpa using ho3) (below_step (ga _ _) q4)
    · rw [e7]; exact owns_later (by simpa using ho4) q5
  have hbw : Below w.heap.size w (((w4.alloc (Obj.cells #[Value.slice none 0 0] 35)).alloc (Obj.cells #[Value.int IntKind.i64 0] 3)).alloc (Obj.cells #[Value.slice none 0 0] 52)) := q1
  have hBs : K.B ≤ (((w4.alloc (Obj.cells #[Value.slice none 0 0] 35)).alloc (Obj.cells #[Value.int IntKind.i64 0] 3)).alloc (Obj.cells #[Value.slice none 0 0] 52)).heap.size := by simp; omega
  rw [← e10, ← e9, ← e8, ← e7, ← e6, ← e5, ← e4, ← e3, ← e2, ← e1]
  clear gb ga q1 q2 q3 q4 q5 ho1 ho2 ho3 ho4 hg1 hg2 hg3 hg4 lt1 lt2 lt3 lt4 e1 e2 e3 e4 e5 e6 e7 e8 e9 e10 e11
  go_loopw [10, 31] (fun f i wr => CRel K n w f i wr) (fun _ i _ => n - (intOf i).toNat)
  case atStart => exact ⟨0, _, _, Nat.zero_le _, rfl, rfl, hst, hbw, hBs⟩
  case round =>
    clear hst hbw hBs
    obtain ⟨r, vs, vc, hr', rfl, rfl, hS, hb, hB⟩ := hrel
    by_cases hlt : r < n
    · have co := cell_of_one hS.bo
      have c0 := hS.ro.at hlt (fill_get_ge _ _ n r r (Nat.le_refl _) hlt (nums_len _ _))
      have i1 : (r : Int) < (n : Int) := by omega
      have HM := fun (w' : World) => meet_any K w wr hK n r r hlt hn (by omega) _ _ _ _ vs vc hS hb hB
      clear hS hb hB
      go_wp2_with fail
      refine (HM wr).mono ?_
      clear HM co c0
      rintro e w1 ⟨vs1, vc1, rfl, hS1, hb1⟩
      obtain ⟨gs, cps, hvs, _⟩ := owns_shape hS1.rk (by simp)
      obtain ⟨gc, cpc, hvc, hcpc⟩ := owns_shape hS1.rv (by simp)
      simp only [List.length_cons, List.length_nil, Nat.zero_add] at hvs
      subst hvs hvc
      rw [fo_set n r hlt] at hS1
      have hxg : R[r]? = some (R[r]'(by omega)) := by rw [List.getElem?_eq_getElem]
      have hxl := hlen (R[r]'(by omega)) (List.getElem_mem _)
      have hxb := hback r _ hxg
      obtain ⟨ax, cx, hx1, hx2, hx3⟩ := hr.2 r _ hxg
      obtain ⟨bD, oD, rfl, _, hcD⟩ := ha r _ hx1
      generalize R[r]'(by omega) = x at *
      have lbD := World.block_lt_of_cell? w _ hcD
      obtain ⟨k1, k2, k3, k4, k5, k6, k7, k8, k9, k10, k11⟩ := id hK
      go_wp2
      go_loopw [10] (fun f wr => C2Rel K n r gs cps gc cpc x.length w f wr) (fun f wr => todo x.length gc wr + (r + 1 - (intOf f).toNat))
      case atStart => exact .inl ⟨0, Nat.zero_le _, rfl, hS1, hb1⟩
      case round =>
        clear hS1 hb1
        rcases hrel with ⟨q, hq, rfl, hA, hb⟩ | ⟨rfl, hBst, htodo, hb⟩
        · have hgc := (hA.rv.lt gc rfl).1
          have hgs := (hA.rk.lt gs rfl).1
          have hgcs := (hA.rv.lt gc rfl).2
          have cc := cell_of_one hA.bc
          have fc := free_of_one hA.bc
          have v0 : wr.cell? ⟨gc, 0, none⟩ = some (.int .i64 (r : Int)) := (hA.rv.cellAt 0 (by omega))
          have v1 : wr.cell? ⟨gc, 1, none⟩ = some (.int .i64 (q : Int)) := (hA.rv.cellAt 1 (by omega))
          have fv := hA.rv.frozenAt 1
          have co := cell_of_one hA.bo
          have cl := cell_of_one hA.bl
          have cs := cell_of_one hA.bs
          have cD := cell_later hb hcD
          have i2 : (r : Int) < (n : Int) := by omega
          have i3 : (0 : Int) ≤ (r : Int) := by omega
          by_cases hltq : q < x.length
          · obtain ⟨t, ht, hmem⟩ : ∃ t, x[q]? = some t ∧ t ∈ x := ⟨x[q], by simp [hltq], List.getElem_mem _⟩
            have htr : t < r := hxb t hmem
            have htn : t < n := by omega
            obtain ⟨bx, ox, rfl, _, hcx⟩ := hx3 q (.int .i64 (t : Int)) (by simp [ints, ht])
            have cx1 := cell_later hb hcx
            have lbx := World.block_lt_of_cell? w _ hcx
            have ot := hA.ro.at htn ((fill_get _ _ n (r + 1) t (by omega) (by omega) (nums_len _ _)).trans (nums_get _ n t htn))
            have st := hA.rs.at htn (by rw [List.getElem?_set_ne (by omega)]; simp [htn] : _ = some (Value.bool false))
            have i4 : (q : Int) < (x.length : Int) := by omega
            have i5 : (0 : Int) ≤ (q : Int) := by omega
            have i6 : (0 : Int) ≤ (t : Int) := by omega
            have i7 : (t : Int) < (n : Int) := by omega
            have o0 : (((t : Int) + 1) == 0) = false := by simp; omega
            have hA2 : ∀ m, stA K n r gs cps gc cpc (q + 1) ((wr.drewN m).setCell ⟨gc, 1, none⟩ (.int .i64 ((q : Int) + 1))) := fun m => stA.next (St.drewN hA m) hK
            have hb2 : ∀ m, Below w.heap.size w ((wr.drewN m).setCell ⟨gc, 1, none⟩ (.int .i64 ((q : Int) + 1))) := fun m => bset (below_drewN hb m) (by omega) _
            have ht2 : ∀ m, todo x.length gc ((wr.drewN m).setCell ⟨gc, 1, none⟩ (.int .i64 ((q : Int) + 1))) = x.length - (q + 1) := fun m => by
              rw [todo_at (World.cell?_setCell_same _ _ _ (by simpa using v1))]; omega
            have ht1 := todo_at (x := x.length) v1
            have HREL : Hid (∀ m, C2Rel K n r gs cps gc cpc x.length w (.int .i64 (r : Int)) ((wr.drewN m).setCell ⟨gc, 1, none⟩ (.int .i64 ((q : Int) + 1)))) := fun m => .inl ⟨q + 1, by omega, rfl, hA2 m, hb2 m⟩
            have HMEA : Hid (∀ m, todo x.length gc ((wr.drewN m).setCell ⟨gc, 1, none⟩ (.int .i64 ((q : Int) + 1))) < todo x.length gc wr) := fun m => by rw [ht2, ht1]; simp; omega
            clear fc hA2 hb2 ht2 ht1
            go_wp2
            go_quiet (fail)
            go_wp2
            go_quiet (fail)
            go_wp2
            exact ⟨HREL.out _, Nat.add_lt_add_right (HMEA.out _) _⟩
          · have hqx : q = x.length := by omega
            subst hqx
            have lr := hA.rl.at hlt ((fill_get _ _ n (r + 1) r (by omega) (by omega) (nums_len _ _)).trans (nums_get _ n r hlt))
            have or' := hA.ro.at hlt ((fill_get _ _ n (r + 1) r (by omega) (by omega) (nums_len _ _)).trans (nums_get _ n r hlt))
            have ck := cell_of_one hA.bk
            have fk := free_of_one hA.bk
            have g0 : wr.cell? ⟨gs, 0, none⟩ = some (.int .i64 (r : Int)) := hA.rk.cellAt 0 (by simp [ints])
            obtain ⟨uS, cS⟩ := someAt hA.rs r (by simp; omega)
            have fS := hA.rs.frozenAt r
            obtain ⟨uC, cC⟩ := someAt hA.rc r (by simp [fillV, nums_len]; omega)
            have fC := hA.rc.frozenAt r
            have i4 : ((x.length : Int) < (x.length : Int)) = False := by simp
            have hA2 := fun m1 m2 => stA.done (St.drewN hA m1 : stA K n r gs cps gc cpc _ _) hK hlt m2
            have hb2 : ∀ m1 m2, Below w.heap.size w ((((((wr.drewN m1).setCell ⟨K.c, 0, none⟩ (stackOf gc 0 cpc)).drewN m2).setCell ⟨K.k, 0, none⟩ (stackOf gs 0 cps)).setCell ⟨K.S, r, none⟩ (.bool false)).setCell ⟨K.C, r, none⟩ (.int .i64 (r : Int))) := fun m1 m2 => bset (bset (bset (below_drewN (bset (below_drewN hb m1) (by omega) _) m2) (by omega) _) (by omega) _) (by omega) _
            have ht2 : ∀ m1 m2, todo x.length gc ((((((wr.drewN m1).setCell ⟨K.c, 0, none⟩ (stackOf gc 0 cpc)).drewN m2).setCell ⟨K.k, 0, none⟩ (stackOf gs 0 cps)).setCell ⟨K.S, r, none⟩ (.bool false)).setCell ⟨K.C, r, none⟩ (.int .i64 (r : Int))) = 0 := fun m1 m2 => by
              rw [todo_at (k := .i64) (q := (x.length : Int)) (by simp (disch := omega) only [cell_drewN, cell_ne]; exact v1)]; simp
            have HREL : Hid (∀ m1 m2, C2Rel K n r gs cps gc cpc x.length w (.int .i64 ((r : Int) + 1)) ((((((wr.drewN m1).setCell ⟨K.c, 0, none⟩ (stackOf gc 0 cpc)).drewN m2).setCell ⟨K.k, 0, none⟩ (stackOf gs 0 cps)).setCell ⟨K.S, r, none⟩ (.bool false)).setCell ⟨K.C, r, none⟩ (.int .i64 (r : Int)))) := fun m1 m2 => .inr ⟨rfl, hA2 m1 m2, ht2 m1 m2, hb2 m1 m2⟩
            have HT : Hid (∀ m1 m2, todo x.length gc ((((((wr.drewN m1).setCell ⟨K.c, 0, none⟩ (stackOf gc 0 cpc)).drewN m2).setCell ⟨K.k, 0, none⟩ (stackOf gs 0 cps)).setCell ⟨K.S, r, none⟩ (.bool false)).setCell ⟨K.C, r, none⟩ (.int .i64 (r : Int))) = 0) := ht2
            clear fv hA2 hb2 ht2
            go_wp2
            go_quiet (fail)
            go_wp2
            go_quiet (fail)
            go_wp2
            refine wp_loop_rounds 1 ?_
            rw [rounds_succ]
            go_wp2
            refine ⟨HREL.out _ _, ?_⟩
            have := HT.out
            rw [this]
            simp only [intOf]
            omega
        · have cc := cell_of_one hBst.bc
          have HFIN : Hid (CRel K n w (.int .i64 ((r : Int) + 1)) (.int .i64 ((r : Int) + 1)) wr) := ⟨r + 1, _, _, by omega, rfl, rfl, hBst, hb, by have := (hBst.rk.lt gs rfl).1; have := (hBst.rk.lt gs rfl).2; omega⟩
          clear hBst hb htodo
          go_wp2
          go_roundw
          case rel => exact HFIN.out
          case measure => simp [intOf]; omega
    · have hrn : r = n := by omega
      subst hrn
      have hfin : IntRes [] w (List.range r) (.returned (sl K.C r)) wr := by
        have hc : Own wr K.C 3 r (nums (fun i => i) r) := (fillV_full (nums (fun i => i) r) (.int .i64 0) r (nums_len _ _)) ▸ hS.rc
        obtain ⟨aC, cC, eC, hcC, hsC⟩ := Sees.of_owns (X := []) hc (fun g hg => by simp)
        simp only [Value.slice.injEq, true_and] at eC
        obtain ⟨rfl, rfl⟩ := eC
        refine ⟨_, r, by rw [List.length_range], by simp, ?_, hb⟩
        have e : nums (fun i => i) r = ints (List.range r) := by simp [nums]
        rw [← e]
        exact hsC
      have HFIN : Hid _ := hfin
      clear hfin hS hb hB
      go_wp2
      go_ret
      exact HFIN.out

end Go.Proofs.Qxb6600314aDoor
