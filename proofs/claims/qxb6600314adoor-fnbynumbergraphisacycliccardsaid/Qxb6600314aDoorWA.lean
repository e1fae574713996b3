/-
  Seat b6600314aD: byNumberModel: the rows that it fills. By an AI agent (seat 043).
-/
import Derived.Test.Qxb6600314aDoorW9
import Derived.Test.Qxb6600314aDoorPl2
set_option linter.unusedSimpArgs false
set_option linter.unusedVariables false
namespace Go.Proofs.Qxb6600314aDoor
open Go.RowKit

/-- A row of n one-cell elements of type e at the head of block B. -/
abbrev Own (w : World) (B : Nat) (e : TypeId) (n : Nat) (xs : List Value) : Prop := w.ownsRow B e 1 (.slice (some ⟨B, 0, none⟩) n n) n xs

theorem Own.put {w : World} {B : Nat} {e : TypeId} {n : Nat} {xs : List Value} (h : Own w B e n xs) (k : Nat) (u : Value) : Own (w.setCell ⟨B, k, none⟩ u) B e n (xs.set k u) := (h.stored k u).1
theorem Own.other {w : World} {B : Nat} {e : TypeId} {n : Nat} {xs : List Value} (h : Own w B e n xs) {C : Nat} (hC : B ≠ C) (k : Nat) (u : Value) : Own (w.setCell ⟨C, k, none⟩ u) B e n xs :=
  owns_kept h (Kept.setCell (X := [C]) (by simp) u) (fun g hg => by simp [Value.ownBlock] at hg; subst hg; simpa using hC)

def nums (f : Nat → Nat) (n : Nat) : List Value := ints ((List.range n).map f)
theorem nums_get (f : Nat → Nat) (n k : Nat) (h : k < n) : (nums f n)[k]? = some (.int .i64 (f k : Int)) := ints_get (by simp [h])
theorem nums_len (f : Nat → Nat) (n : Nat) : (nums f n).length = n := by simp [nums, ints]
theorem fill_get (xs : List Value) (z : Value) (n k j : Nat) (hj : j < k) (hk : k ≤ n) (hx : xs.length = n) : (fillV xs z n k)[j]? = xs[j]? := by
  unfold fillV
  rw [List.getElem?_append_left (by simp; omega), List.getElem?_take, if_pos hj]

/-- The three rows of run numbers as far as they are filled. -/
structure Rows3 (w : World) (P T G n : Nat) (xp xt xg : List Value) : Prop where
  p : Own w P 3 n xp
  t : Own w T 3 n xt
  g : Own w G 3 n xg
theorem Rows3.putP {w : World} {P T G n : Nat} {xp xt xg : List Value} (h : Rows3 w P T G n xp xt xg) (h1 : P < T) (h2 : T < G) (k : Nat) (u : Value) : Rows3 (w.setCell ⟨P, k, none⟩ u) P T G n (xp.set k u) xt xg :=
  ⟨h.p.put k u, h.t.other (by omega) k u, h.g.other (by omega) k u⟩
theorem Rows3.putT {w : World} {P T G n : Nat} {xp xt xg : List Value} (h : Rows3 w P T G n xp xt xg) (h1 : P < T) (h2 : T < G) (k : Nat) (u : Value) : Rows3 (w.setCell ⟨T, k, none⟩ u) P T G n xp (xt.set k u) xg :=
  ⟨h.p.other (by omega) k u, h.t.put k u, h.g.other (by omega) k u⟩
theorem Rows3.putG {w : World} {P T G n : Nat} {xp xt xg : List Value} (h : Rows3 w P T G n xp xt xg) (h1 : P < T) (h2 : T < G) (k : Nat) (u : Value) : Rows3 (w.setCell ⟨G, k, none⟩ u) P T G n xp xt (xg.set k u) :=
  ⟨h.p.other (by omega) k u, h.t.other (by omega) k u, h.g.put k u⟩

def M1 (P T G n : Nat) (pr tr gr : Nat → Nat) (w : World) (i : Value) (wr : World) : Prop :=
  ∃ k : Nat, 1 ≤ k ∧ (k ≤ n ∨ k = 1) ∧ i = .int .i64 (k : Int) ∧ Rows3 wr P T G n (fillV (nums pr n) (.int .i64 0) n k) (fillV (nums tr n) (.int .i64 0) n k) (fillV (nums gr n) (.int .i64 0) n k) ∧ Below w.heap.size w wr

theorem set_fill (f : Nat → Nat) (n k : Nat) (hk : k < n) : (fillV (nums f n) (.int .i64 0) n k).set k (.int .i64 (f k : Int)) = fillV (nums f n) (.int .i64 0) n (k + 1) :=
  fillV_set _ _ _ n k (nums_len _ _) (nums_get f n k hk)
theorem set_set_fill (f : Nat → Nat) (n k : Nat) (hk : k < n) (u : Value) : ((fillV (nums f n) (.int .i64 0) n k).set k u).set k (.int .i64 (f k : Int)) = fillV (nums f n) (.int .i64 0) n (k + 1) := by
  rw [List.set_set, set_fill f n k hk]

theorem row_up {f : Nat → Nat} {n k p : Nat} (hk : k < n) (e : f k = p + 1) (u : Value) : ((fillV (nums f n) (.int .i64 0) n k).set k u).set k (.int .i64 ((p : Int) + 1)) = fillV (nums f n) (.int .i64 0) n (k + 1) := by
  rw [← set_set_fill f n k hk u, e]; rfl
theorem row_same {f : Nat → Nat} {n k p : Nat} (hk : k < n) (e : f k = p) : (fillV (nums f n) (.int .i64 0) n k).set k (.int .i64 (p : Int)) = fillV (nums f n) (.int .i64 0) n (k + 1) := by
  rw [← set_fill f n k hk, e]
theorem Rows3.drewN {w : World} {P T G n : Nat} {xp xt xg : List Value} (h : Rows3 w P T G n xp xt xg) (q : Nat) : Rows3 (w.drewN q) P T G n xp xt xg := ⟨h.p, h.t, h.g⟩
theorem m1_end {P T G n k : Nat} {pr tr gr : Nat → Nat} {w wr : World} {xp xt xg : List Value} (hlt : k < n) (h : Rows3 wr P T G n xp xt xg) (ep : xp = fillV (nums pr n) (.int .i64 0) n (k + 1))
    (et : xt = fillV (nums tr n) (.int .i64 0) n (k + 1)) (eg : xg = fillV (nums gr n) (.int .i64 0) n (k + 1)) (hb : Below w.heap.size w wr) : M1 P T G n pr tr gr w (.int .i64 ((k : Int) + 1)) wr := by
  subst ep et eg
  exact ⟨k + 1, by omega, .inl (by omega), rfl, h, hb⟩

theorem bset {B C k : Nat} {w x : World} (h : Below B w x) (hC : B ≤ C) (u : Value) : Below B w (x.setCell ⟨C, k, none⟩ u) := h.setCell hC u
theorem cell_drewN (w : World) (q : Nat) (x : Addr) : (w.drewN q).cell? x = w.cell? x := rfl
theorem cell_lt {w : World} {b o o' C : Nat} (u : Value) (h : b < C) : (w.setCell ⟨C, o', none⟩ u).cell? ⟨b, o, none⟩ = w.cell? ⟨b, o, none⟩ := cell_off u (Nat.ne_of_lt h)

theorem info4 : (Tryd.prog.info? 4).map (fun i => (i.zero, i.size, i.bytes)) = some (some (.bool false), 1, 1) := by kernel_rfl

theorem fill_over (xs : List Value) (z : Value) (n k : Nat) (hx : xs.length = n) (hk : n ≤ k) : fillV xs z n k = xs := by
  unfold fillV
  rw [List.take_of_length_le (by omega), show n - k = 0 by omega]
  simp
def bools (f : Nat → Bool) (n : Nat) : List Value := (List.range n).map fun i => Value.bool (f i)
theorem bools_get (f : Nat → Bool) (n k : Nat) (h : k < n) : (bools f n)[k]? = some (.bool (f k)) := by simp [bools, h]
theorem bools_len (f : Nat → Bool) (n : Nat) : (bools f n).length = n := by simp [bools]
theorem set_bools (f : Nat → Bool) (n k : Nat) (hk : k < n) (b : Bool) (hb : f k = b) : (fillV (bools f n) (.bool false) n k).set k (.bool b) = fillV (bools f n) (.bool false) n (k + 1) :=
  fillV_set _ _ _ n k (bools_len _ _) (by rw [← hb]; exact bools_get f n k hk)
/-- Filled from the end: the last d. -/
def fillR (xs : List Value) (z : Value) (n d : Nat) : List Value := List.replicate (n - d) z ++ xs.drop (n - d)
theorem fillR_zero (xs : List Value) (z : Value) (n : Nat) (h : xs.length = n) : fillR xs z n 0 = List.replicate n z := by
  unfold fillR
  rw [List.drop_of_length_le (by omega)]
  simp
theorem fillR_full (xs : List Value) (z : Value) (n : Nat) : fillR xs z n n = xs := by simp [fillR]
theorem fillR_get (xs : List Value) (z : Value) (n d q : Nat) (hq : n - d ≤ q) (h : xs.length = n) : (fillR xs z n d)[q]? = xs[q]? := by
  unfold fillR
  rw [List.getElem?_append_right (by simp; omega), List.getElem?_drop]
  congr 1
  simp
  omega
theorem fillR_set (xs : List Value) (z u : Value) (n d : Nat) (hd : d < n) (h : xs.length = n) (hu : xs[n - 1 - d]? = some u) : (fillR xs z n d).set (n - 1 - d) u = fillR xs z n (d + 1) := by
  obtain ⟨hk, hu⟩ := List.getElem?_eq_some_iff.1 hu
  unfold fillR
  obtain ⟨m, hm⟩ : ∃ m, n - d = m + 1 := ⟨n - d - 1, by omega⟩
  have hm' : n - (d + 1) = m := by omega
  have hq : n - 1 - d = m := by omega
  have hml : m < xs.length := by omega
  rw [hm, hm', hq]
  rw [List.set_append_left _ _ (by simp), List.replicate_succ', List.set_append_right _ _ (by simp)]
  simp only [List.length_replicate, Nat.sub_self, List.set_cons_zero]
  rw [List.append_assoc]
  congr 1
  have hu' : xs[m]'hml = u := by
    have := hu
    simp only [hq] at this
    exact this
  rw [List.drop_eq_getElem_cons hml, hu']
  rfl

/-- The rows that are only read from now on, and one of bools that is being filled. -/
def M2 (P T G F n : Nat) (pr tr gr : Nat → Nat) (w : World) (i : Value) (wr : World) : Prop :=
  ∃ k : Nat, k ≤ n ∧ i = .int .i64 (k : Int) ∧ Rows3 wr P T G n (nums pr n) (nums tr n) (nums gr n) ∧ Own wr F 4 n (fillV (bools (fgOf tr gr) n) (.bool false) n k) ∧ Below w.heap.size w wr
def M3 (P T G F L n : Nat) (pr tr gr : Nat → Nat) (w : World) (i : Value) (wr : World) : Prop :=
  ∃ d : Nat, d ≤ n ∧ i = .int .i64 ((n : Int) - 1 - (d : Int)) ∧ Rows3 wr P T G n (nums pr n) (nums tr n) (nums gr n) ∧ Own wr F 4 n (bools (fgOf tr gr) n) ∧ Own wr L 4 n (fillR (bools (lgOf tr gr n) n) (.bool false) n d) ∧ Below w.heap.size w wr
theorem Rows3.kept {w w' : World} {P T G n : Nat} {xp xt xg : List Value} (h : Rows3 w P T G n xp xt xg) {X : List Nat} (hk : Kept X w w') (hp : P ∉ X) (ht : T ∉ X) (hg : G ∉ X) : Rows3 w' P T G n xp xt xg :=
  ⟨owns_kept h.p hk (fun k e => by simp [Value.ownBlock] at e; subst e; exact hp), owns_kept h.t hk (fun k e => by simp [Value.ownBlock] at e; subst e; exact ht), owns_kept h.g hk (fun k e => by simp [Value.ownBlock] at e; subst e; exact hg)⟩
theorem Rows3.below {w w' : World} {P T G n : Nat} {xp xt xg : List Value} (h : Rows3 w P T G n xp xt xg) (hb : Below w.heap.size w w') : Rows3 w' P T G n xp xt xg := ⟨owns_later h.p hb, owns_later h.t hb, owns_later h.g hb⟩
theorem Own.kept {w w' : World} {B : Nat} {e : TypeId} {n : Nat} {xs : List Value} (h : Own w B e n xs) {X : List Nat} (hk : Kept X w w') (hB : B ∉ X) : Own w' B e n xs :=
  owns_kept h hk (fun k hh => by simp [Value.ownBlock] at hh; subst hh; exact hB)
theorem Own.at {w : World} {B : Nat} {e : TypeId} {n : Nat} {xs : List Value} (h : Own w B e n xs) {k : Nat} {u : Value} (hk : k < n) (hu : xs[k]? = some u) : w.cell? ⟨B, k, none⟩ = some u := by
  rw [h.cellAt k (by omega)]; exact hu

/-- Keys of neighbours. -/
def newP (s : List ByteArray) (i : Nat) : Bool := !(tailOf (s.getD i ByteArray.empty) == tailOf (s.getD (i - 1) ByteArray.empty))
def newL (s : List ByteArray) (i : Nat) : Bool := !((s.getD i ByteArray.empty).toList == (s.getD (i - 1) ByteArray.empty).toList)
def isP (ph : List ByteArray) (i : Nat) : Bool := newP ph i
def isT (ph le : List ByteArray) (i : Nat) : Bool := newP ph i || newL le i
def isG (ph le nu : List ByteArray) (i : Nat) : Bool := (newP ph i || newL le i) || newP nu i

theorem sameNumber_q (a b : ByteArray) (w : World) (hla : a.size ≤ 9223372036854775807) (hlb : b.size ≤ 9223372036854775807) :
    Calls Tryd.prog 19 #[.string a, .string b] w fun e w' => e = .returned (.bool (tailOf a == tailOf b)) ∧ ∃ m, w' = w.drewN m := sameNumber_any a b w hla hlb

end Go.Proofs.Qxb6600314aDoor
