/-
  Seat b6600314aD: components: what lies in memory while it runs. By an AI agent (seat 043).
-/
import Derived.Test.Qxb6600314aDoorWC
set_option linter.unusedSimpArgs false
set_option linter.unusedVariables false
namespace Go.Proofs.Qxb6600314aDoor
open Go.RowKit

/-- The blocks: the rows of order, low, onStack, component (O, L, S, C), the boxes of order, low, onStack, stack, met, calls (o, l, s, k, m, c); from B on: what the appends make. -/
structure Ks where
  O : Nat
  o : Nat
  L : Nat
  l : Nat
  S : Nat
  s : Nat
  C : Nat
  k : Nat
  m : Nat
  c : Nat
  B : Nat
structure Ks.Ok (K : Ks) (N : Nat) : Prop where
  h1 : N ≤ K.O
  h2 : K.O < K.o
  h3 : K.o < K.L
  h4 : K.L < K.l
  h5 : K.l < K.S
  h6 : K.S < K.s
  h7 : K.s < K.C
  h8 : K.C < K.k
  h9 : K.k < K.m
  h10 : K.m < K.c
  h11 : K.c < K.B

abbrev sl (b n : Nat) : Value := .slice (some ⟨b, 0, none⟩) n n
/-- The state. -/
structure St (K : Ks) (n : Nat) (xo xl xs xc : List Value) (met : Nat) (vs : Value) (st : List Nat) (vc : Value) (nc : Nat) (cs : List Value) (w : World) : Prop where
  bo : w.heap[K.o]? = some (.cells #[sl K.O n] 35 (0, 0))
  bl : w.heap[K.l]? = some (.cells #[sl K.L n] 35 (0, 0))
  bs : w.heap[K.s]? = some (.cells #[sl K.S n] 48 (0, 0))
  bk : w.heap[K.k]? = some (.cells #[vs] 35 (0, 0))
  bm : w.heap[K.m]? = some (.cells #[.int .i64 (met : Int)] 3 (0, 0))
  bc : w.heap[K.c]? = some (.cells #[vc] 52 (0, 0))
  ro : Own w K.O 3 n xo
  rl : Own w K.L 3 n xl
  rs : Own w K.S 4 n xs
  rc : Own w K.C 3 n xc
  rk : w.ownsRow K.B 3 1 vs st.length (ints st)
  rv : w.ownsRow K.B 54 2 vc nc cs

theorem blk {w w' : World} {X : List Nat} {b : Nat} {o : Obj} (h : w.heap[b]? = some o) (hk : Kept X w w') (hb : b ∉ X) : w'.heap[b]? = some o :=
  (hk.block b (lt_of_block h) hb).trans h

section
variable {K : Ks} {n N : Nat} {xo xl xs xc : List Value} {met : Nat} {vs : Value} {st : List Nat} {vc : Value} {nc : Nat} {cs : List Value} {w w' : World}

/-- Nothing of the state is written. -/
theorem St.kept (h : St K n xo xl xs xc met vs st vc nc cs w) {X : List Nat} (hk : Kept X w w') (hX : ∀ b ∈ [K.O, K.o, K.L, K.l, K.S, K.s, K.C, K.k, K.m, K.c], b ∉ X) (hs : ∀ b, vs.ownBlock = some b → b ∉ X) (hc : ∀ b, vc.ownBlock = some b → b ∉ X) :
    St K n xo xl xs xc met vs st vc nc cs w' :=
  ⟨blk h.bo hk (hX _ (by simp)), blk h.bl hk (hX _ (by simp)), blk h.bs hk (hX _ (by simp)), blk h.bk hk (hX _ (by simp)), blk h.bm hk (hX _ (by simp)), blk h.bc hk (hX _ (by simp)),
    h.ro.kept hk (hX _ (by simp)), h.rl.kept hk (hX _ (by simp)), h.rs.kept hk (hX _ (by simp)), h.rc.kept hk (hX _ (by simp)), owns_kept h.rk hk hs, owns_kept h.rv hk hc⟩
theorem St.below (h : St K n xo xl xs xc met vs st vc nc cs w) (hb : Below w.heap.size w w') : St K n xo xl xs xc met vs st vc nc cs w' :=
  h.kept (X := []) (Kept.of_below hb) (by simp) (by simp) (by simp)
theorem St.drewN (h : St K n xo xl xs xc met vs st vc nc cs w) (q : Nat) : St K n xo xl xs xc met vs st vc nc cs (w.drewN q) :=
  ⟨h.bo, h.bl, h.bs, h.bk, h.bm, h.bc, h.ro, h.rl, h.rs, h.rc, h.rk, h.rv⟩

theorem St.far (h : St K n xo xl xs xc met vs st vc nc cs w) (hK : K.Ok N) {b : Nat} (hb : b < K.B) : (∀ g, vs.ownBlock = some g → g ∉ [b]) ∧ (∀ g, vc.ownBlock = some g → g ∉ [b]) :=
  ⟨fun g hg => by have := (h.rk.lt g hg).1; simp; omega, fun g hg => by have := (h.rv.lt g hg).1; simp; omega⟩

theorem St.setM (h : St K n xo xl xs xc met vs st vc nc cs w) (hK : K.Ok N) (x : Nat) : St K n xo xl xs xc x vs st vc nc cs (w.setCell ⟨K.m, 0, none⟩ (.int .i64 (x : Int))) := by
  obtain ⟨h1, h2, h3, h4, h5, h6, h7, h8, h9, h10, h11⟩ := hK
  have hk : Kept [K.m] w (w.setCell ⟨K.m, 0, none⟩ (.int .i64 (x : Int))) := Kept.setCell (by simp) _
  have f := h.far (N := N) ⟨h1, h2, h3, h4, h5, h6, h7, h8, h9, h10, h11⟩ (b := K.m) (by omega)
  exact ⟨blk h.bo hk (by simp; omega), blk h.bl hk (by simp; omega), blk h.bs hk (by simp; omega), blk h.bk hk (by simp; omega), one_setCell h.bm, blk h.bc hk (by simp; omega),
    h.ro.kept hk (by simp; omega), h.rl.kept hk (by simp; omega), h.rs.kept hk (by simp; omega), h.rc.kept hk (by simp; omega), owns_kept h.rk hk f.1, owns_kept h.rv hk f.2⟩
theorem St.setO (h : St K n xo xl xs xc met vs st vc nc cs w) (hK : K.Ok N) (i : Nat) (u : Value) : St K n (xo.set i u) xl xs xc met vs st vc nc cs (w.setCell ⟨K.O, i, none⟩ u) := by
  obtain ⟨h1, h2, h3, h4, h5, h6, h7, h8, h9, h10, h11⟩ := hK
  have hk : Kept [K.O] w (w.setCell ⟨K.O, i, none⟩ u) := Kept.setCell (by simp) _
  have f := h.far (N := N) ⟨h1, h2, h3, h4, h5, h6, h7, h8, h9, h10, h11⟩ (b := K.O) (by omega)
  exact ⟨blk h.bo hk (by simp; omega), blk h.bl hk (by simp; omega), blk h.bs hk (by simp; omega), blk h.bk hk (by simp; omega), blk h.bm hk (by simp; omega), blk h.bc hk (by simp; omega),
    h.ro.put i u, h.rl.kept hk (by simp; omega), h.rs.kept hk (by simp; omega), h.rc.kept hk (by simp; omega), owns_kept h.rk hk f.1, owns_kept h.rv hk f.2⟩
theorem St.setL (h : St K n xo xl xs xc met vs st vc nc cs w) (hK : K.Ok N) (i : Nat) (u : Value) : St K n xo (xl.set i u) xs xc met vs st vc nc cs (w.setCell ⟨K.L, i, none⟩ u) := by
  obtain ⟨h1, h2, h3, h4, h5, h6, h7, h8, h9, h10, h11⟩ := hK
  have hk : Kept [K.L] w (w.setCell ⟨K.L, i, none⟩ u) := Kept.setCell (by simp) _
  have f := h.far (N := N) ⟨h1, h2, h3, h4, h5, h6, h7, h8, h9, h10, h11⟩ (b := K.L) (by omega)
  exact ⟨blk h.bo hk (by simp; omega), blk h.bl hk (by simp; omega), blk h.bs hk (by simp; omega), blk h.bk hk (by simp; omega), blk h.bm hk (by simp; omega), blk h.bc hk (by simp; omega),
    h.ro.kept hk (by simp; omega), h.rl.put i u, h.rs.kept hk (by simp; omega), h.rc.kept hk (by simp; omega), owns_kept h.rk hk f.1, owns_kept h.rv hk f.2⟩
theorem St.setS (h : St K n xo xl xs xc met vs st vc nc cs w) (hK : K.Ok N) (i : Nat) (u : Value) : St K n xo xl (xs.set i u) xc met vs st vc nc cs (w.setCell ⟨K.S, i, none⟩ u) := by
  obtain ⟨h1, h2, h3, h4, h5, h6, h7, h8, h9, h10, h11⟩ := hK
  have hk : Kept [K.S] w (w.setCell ⟨K.S, i, none⟩ u) := Kept.setCell (by simp) _
  have f := h.far (N := N) ⟨h1, h2, h3, h4, h5, h6, h7, h8, h9, h10, h11⟩ (b := K.S) (by omega)
  exact ⟨blk h.bo hk (by simp; omega), blk h.bl hk (by simp; omega), blk h.bs hk (by simp; omega), blk h.bk hk (by simp; omega), blk h.bm hk (by simp; omega), blk h.bc hk (by simp; omega),
    h.ro.kept hk (by simp; omega), h.rl.kept hk (by simp; omega), h.rs.put i u, h.rc.kept hk (by simp; omega), owns_kept h.rk hk f.1, owns_kept h.rv hk f.2⟩
theorem St.setC (h : St K n xo xl xs xc met vs st vc nc cs w) (hK : K.Ok N) (i : Nat) (u : Value) : St K n xo xl xs (xc.set i u) met vs st vc nc cs (w.setCell ⟨K.C, i, none⟩ u) := by
  obtain ⟨h1, h2, h3, h4, h5, h6, h7, h8, h9, h10, h11⟩ := hK
  have hk : Kept [K.C] w (w.setCell ⟨K.C, i, none⟩ u) := Kept.setCell (by simp) _
  have f := h.far (N := N) ⟨h1, h2, h3, h4, h5, h6, h7, h8, h9, h10, h11⟩ (b := K.C) (by omega)
  exact ⟨blk h.bo hk (by simp; omega), blk h.bl hk (by simp; omega), blk h.bs hk (by simp; omega), blk h.bk hk (by simp; omega), blk h.bm hk (by simp; omega), blk h.bc hk (by simp; omega),
    h.ro.kept hk (by simp; omega), h.rl.kept hk (by simp; omega), h.rs.kept hk (by simp; omega), h.rc.put i u, owns_kept h.rk hk f.1, owns_kept h.rv hk f.2⟩
/-- The stack's variable takes another slice, which owns what is told. -/
theorem St.setK (h : St K n xo xl xs xc met vs st vc nc cs w) (hK : K.Ok N) (vs' : Value) (st' : List Nat) (hr : w.ownsRow K.B 3 1 vs' st'.length (ints st')) : St K n xo xl xs xc met vs' st' vc nc cs (w.setCell ⟨K.k, 0, none⟩ vs') := by
  obtain ⟨h1, h2, h3, h4, h5, h6, h7, h8, h9, h10, h11⟩ := hK
  have hk : Kept [K.k] w (w.setCell ⟨K.k, 0, none⟩ vs') := Kept.setCell (by simp) _
  have f := h.far (N := N) ⟨h1, h2, h3, h4, h5, h6, h7, h8, h9, h10, h11⟩ (b := K.k) (by omega)
  exact ⟨blk h.bo hk (by simp; omega), blk h.bl hk (by simp; omega), blk h.bs hk (by simp; omega), one_setCell h.bk, blk h.bm hk (by simp; omega), blk h.bc hk (by simp; omega),
    h.ro.kept hk (by simp; omega), h.rl.kept hk (by simp; omega), h.rs.kept hk (by simp; omega), h.rc.kept hk (by simp; omega), owns_kept hr hk (fun g hg => by have := (hr.lt g hg).1; simp; omega), owns_kept h.rv hk f.2⟩
theorem St.setV (h : St K n xo xl xs xc met vs st vc nc cs w) (hK : K.Ok N) (vc' : Value) (nc' : Nat) (cs' : List Value) (hr : w.ownsRow K.B 54 2 vc' nc' cs') : St K n xo xl xs xc met vs st vc' nc' cs' (w.setCell ⟨K.c, 0, none⟩ vc') := by
  obtain ⟨h1, h2, h3, h4, h5, h6, h7, h8, h9, h10, h11⟩ := hK
  have hk : Kept [K.c] w (w.setCell ⟨K.c, 0, none⟩ vc') := Kept.setCell (by simp) _
  have f := h.far (N := N) ⟨h1, h2, h3, h4, h5, h6, h7, h8, h9, h10, h11⟩ (b := K.c) (by omega)
  exact ⟨blk h.bo hk (by simp; omega), blk h.bl hk (by simp; omega), blk h.bs hk (by simp; omega), blk h.bk hk (by simp; omega), blk h.bm hk (by simp; omega), one_setCell h.bc,
    h.ro.kept hk (by simp; omega), h.rl.kept hk (by simp; omega), h.rs.kept hk (by simp; omega), h.rc.kept hk (by simp; omega), owns_kept h.rk hk f.1, owns_kept hr hk (fun g hg => by have := (hr.lt g hg).1; simp; omega)⟩
/-- The two rows that grow lie apart: their elements are of two types. -/
theorem apart_rows {w : World} {B : Nat} {v v' : Value} {a b : Nat} {xs ys : List Value} (h : w.ownsRow B 3 1 v a xs) (h' : w.ownsRow B 54 2 v' b ys) : ∀ g, v.ownBlock = some g → v'.ownBlock ≠ some g := by
  intro g hg hg'
  rcases h.2 with ⟨rfl, _⟩ | ⟨g1, cap, cur, rfl, _, hh, _⟩
  · simp [Value.ownBlock] at hg
  · rcases h'.2 with ⟨rfl, _⟩ | ⟨g2, cap2, cur2, rfl, _, hh2, _⟩
    · simp [Value.ownBlock] at hg'
    · simp [Value.ownBlock] at hg hg'
      subst hg hg'
      rw [hh] at hh2
      simp at hh2
/-- Behind an append to the stack (not yet stored): the state but for the stack's own row. -/
theorem St.grownK (h : St K n xo xl xs xc met vs st vc nc cs w) (hK : K.Ok N) (hg : w.grownBy w' vs.ownBlock) (vs' : Value) (st' : List Nat) (hr : w'.ownsRow K.B 3 1 vs' st'.length (ints st')) :
    St K n xo xl xs xc met vs' st' vc nc cs (w'.setCell ⟨K.k, 0, none⟩ vs') := by
  have hlow : ∀ b, b < K.B → some b ≠ vs.ownBlock := fun b hb e => by have := (h.rk.lt b e.symm).1; omega
  obtain ⟨h1, h2, h3, h4, h5, h6, h7, h8, h9, h10, h11⟩ := hK
  have kp : ∀ b o, b < K.B → w.heap[b]? = some o → w'.heap[b]? = some o := fun b o hb ho => (hg.block b (lt_of_block ho) (hlow b hb)).trans ho
  have own : ∀ {b : Nat} {e : TypeId} {ys : List Value}, b < K.B → Own w b e n ys → Own w' b e n ys := fun {b e ys} hb ho => ho.kept (w' := w') (X := vs.ownBlock.toList) ⟨hg.size, fun i hi hx => hg.block i hi (fun e => hx (by rw [← e]; simp))⟩ (by
    cases hv : vs.ownBlock with
    | none => simp
    | some g => have := (h.rk.lt g hv).1; simp; omega)
  have hv' : w'.ownsRow K.B 54 2 vc nc cs := h.rv.kept hg (by
    cases hv : vc.ownBlock with
    | none => exact .inl rfl
    | some g => exact .inr (fun e => apart_rows h.rk h.rv g e.symm hv))
  have hk : Kept [K.k] w' (w'.setCell ⟨K.k, 0, none⟩ vs') := Kept.setCell (by simp) _
  exact ⟨blk (kp _ _ (by omega) h.bo) hk (by simp; omega), blk (kp _ _ (by omega) h.bl) hk (by simp; omega), blk (kp _ _ (by omega) h.bs) hk (by simp; omega), one_setCell (kp _ _ (by omega) h.bk), blk (kp _ _ (by omega) h.bm) hk (by simp; omega), blk (kp _ _ (by omega) h.bc) hk (by simp; omega),
    (own (by omega) h.ro).kept hk (by simp; omega), (own (by omega) h.rl).kept hk (by simp; omega), (own (by omega) h.rs).kept hk (by simp; omega), (own (by omega) h.rc).kept hk (by simp; omega),
    owns_kept hr hk (fun g hg => by have := (hr.lt g hg).1; simp; omega), owns_kept hv' hk (fun g hg => by have := (hv'.lt g hg).1; simp; omega)⟩
theorem St.grownV (h : St K n xo xl xs xc met vs st vc nc cs w) (hK : K.Ok N) (hg : w.grownBy w' vc.ownBlock) (vc' : Value) (nc' : Nat) (cs' : List Value) (hr : w'.ownsRow K.B 54 2 vc' nc' cs') :
    St K n xo xl xs xc met vs st vc' nc' cs' (w'.setCell ⟨K.c, 0, none⟩ vc') := by
  have hlow : ∀ b, b < K.B → some b ≠ vc.ownBlock := fun b hb e => by have := (h.rv.lt b e.symm).1; omega
  obtain ⟨h1, h2, h3, h4, h5, h6, h7, h8, h9, h10, h11⟩ := hK
  have kp : ∀ b o, b < K.B → w.heap[b]? = some o → w'.heap[b]? = some o := fun b o hb ho => (hg.block b (lt_of_block ho) (hlow b hb)).trans ho
  have own : ∀ {b : Nat} {e : TypeId} {ys : List Value}, b < K.B → Own w b e n ys → Own w' b e n ys := fun {b e ys} hb ho => ho.kept (w' := w') (X := vc.ownBlock.toList) ⟨hg.size, fun i hi hx => hg.block i hi (fun e => hx (by rw [← e]; simp))⟩ (by
    cases hv : vc.ownBlock with
    | none => simp
    | some g => have := (h.rv.lt g hv).1; simp; omega)
  have hs' : w'.ownsRow K.B 3 1 vs st.length (ints st) := h.rk.kept hg (by
    cases hv : vs.ownBlock with
    | none => exact .inl rfl
    | some g => exact .inr (fun e => apart_rows h.rk h.rv g hv e.symm))
  have hk : Kept [K.c] w' (w'.setCell ⟨K.c, 0, none⟩ vc') := Kept.setCell (by simp) _
  exact ⟨blk (kp _ _ (by omega) h.bo) hk (by simp; omega), blk (kp _ _ (by omega) h.bl) hk (by simp; omega), blk (kp _ _ (by omega) h.bs) hk (by simp; omega), blk (kp _ _ (by omega) h.bk) hk (by simp; omega), blk (kp _ _ (by omega) h.bm) hk (by simp; omega), one_setCell (kp _ _ (by omega) h.bc),
    (own (by omega) h.ro).kept hk (by simp; omega), (own (by omega) h.rl).kept hk (by simp; omega), (own (by omega) h.rs).kept hk (by simp; omega), (own (by omega) h.rc).kept hk (by simp; omega),
    owns_kept hs' hk (fun g hg => by have := (hs'.lt g hg).1; simp; omega), owns_kept hr hk (fun g hg => by have := (hr.lt g hg).1; simp; omega)⟩
end

end Go.Proofs.Qxb6600314aDoor
