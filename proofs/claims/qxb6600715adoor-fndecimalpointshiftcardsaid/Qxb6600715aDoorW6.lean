/-
  Seat b6600715aD: the library's calls in this seat's words. By an AI agent (seat 043).
-/
import Derived.Test.Qxb6600715aDoorW5
import Derived.Test.Qxb6600715aDoorShelf
import Derived.Test.Qxb6600715aDoorShelf2
import Derived.Shelf.Bytes.SlSmallAll
set_option linter.unusedSimpArgs false
set_option linter.unusedVariables false
namespace Go.Proofs.Qxb6600715aDoor
open Go.RowKit

/-- Without the zeros ahead; without those behind. -/
def lz (l : List UInt8) : List UInt8 := l.dropWhile (· == 48)
def rz (l : List UInt8) : List UInt8 := (l.reverse.dropWhile (· == 48)).reverse
theorem one48 (x : UInt8) : ([48] : List UInt8).contains x = (x == 48) := by
  rw [List.contains_cons, List.contains_nil, Bool.or_false]
theorem lz_eq (l : List UInt8) : Lib.trimLeftS l [48] = lz l := by
  unfold Lib.trimLeftS lz
  congr 1
  funext x
  exact one48 x
theorem rz_eq (l : List UInt8) : Lib.trimRightS l [48] = rz l := by
  unfold Lib.trimRightS rz
  congr 2
  funext x
  exact one48 x
theorem lz_drop (l : List UInt8) : lz l = l.drop (l.length - (lz l).length) := by
  have h := List.takeWhile_append_dropWhile (p := (· == 48)) (l := l)
  have e : l.length = (l.takeWhile (· == 48)).length + (lz l).length := by
    conv => lhs; rw [← h]
    rw [List.length_append]; rfl
  conv => rhs; arg 2; rw [← h]
  rw [show l.length - (lz l).length = (l.takeWhile (· == 48)).length by omega, List.drop_left']
  · rfl
  · rfl
theorem lz_len (l : List UInt8) : (lz l).length ≤ l.length := by
  have h := lz_drop l
  rw [h, List.length_drop]; omega
theorem rz_pre (l : List UInt8) : ∃ z, l = rz l ++ z ∧ ∀ b ∈ z, b = 48 := by
  refine ⟨(l.reverse.takeWhile (· == 48)).reverse, ?_, ?_⟩
  · have h := List.takeWhile_append_dropWhile (p := (· == 48)) (l := l.reverse)
    have h2 := congrArg List.reverse h
    rw [List.reverse_append, List.reverse_reverse] at h2
    exact h2.symm
  · intro b hb
    rw [List.mem_reverse] at hb
    have h := List.all_takeWhile (p := (· == (48 : UInt8))) (l := l.reverse)
    rw [List.all_eq_true] at h
    exact eq_of_beq (h b hb)
theorem rz_len (l : List UInt8) : (rz l).length ≤ l.length := by
  obtain ⟨z, h, _⟩ := rz_pre l
  conv => rhs; rw [h]
  rw [List.length_append]; omega

theorem BAt.lib {w : World} {a : Option Addr} {bs : List UInt8} (h : BAt w a bs) : Lib.BytesAt w a bs.length bs := by
  intro hp
  obtain ⟨g, o, rfl, _⟩ := h 0 (bs[0]) (by simp [hp])
  refine ⟨g, o, rfl, fun i hi => ?_⟩
  obtain ⟨g', o', e, hc⟩ := h i (bs[i]) (by simp [hi])
  cases e
  rw [hc]
  simp [List.getD, hi]
theorem BAt.drop {w : World} {g o : Nat} {bs : List UInt8} (h : BAt w (some ⟨g, o, none⟩) bs) (j : Nat) : BAt w (some ⟨g, o + j, none⟩) (bs.drop j) := by
  intro k b hk
  rw [List.getElem?_drop] at hk
  obtain ⟨g', o', e, hc⟩ := h (j + k) b hk
  cases e
  exact ⟨g, o + j, rfl, by rw [Nat.add_assoc]; exact hc⟩
theorem BAt.pre {w : World} {a : Option Addr} {x z : List UInt8} (h : BAt w a (x ++ z)) : BAt w a x := by
  intro k b hk
  have hl := (List.getElem?_eq_some_iff.1 hk).1
  exact h k b (by rw [List.getElem?_append_left hl]; exact hk)

/-- What TrimLeft leaves. -/
def LzRes (w : World) (bs : List UInt8) (e : Ending) (w' : World) : Prop := ∃ a c, e = .returned (.slice a (lz bs).length c) ∧ (lz bs).length ≤ c ∧ c ≤ 9223372036854775807 ∧ BAt w a (lz bs) ∧ w' = w
theorem trimLeft_any (a : Option Addr) (c : Nat) (bs : List UInt8) (w : World) (hnc : bs.length ≤ c) (hbig : c ≤ 9223372036854775807) (hs : BAt w a bs) :
    Calls Tryd.prog 20 #[.slice a bs.length c, .string ⟨#[48]⟩] w fun e w' => LzRes w bs e w' := by
  by_cases h0 : bs.length = 0
  · have hb : bs = [] := List.eq_nil_of_length_eq_zero h0
    subst hb
    refine (show Calls Tryd.prog 20 _ _ _ from Any.bytes_TrimLeft_none Tryd.laysV8 a c ⟨#[48]⟩ w).mono ?_
    rintro e w' ⟨rfl, rfl⟩
    exact ⟨none, 0, rfl, Nat.le_refl _, by omega, BAt.nil _ _, rfl⟩
  · refine (show Calls Tryd.prog 20 _ _ _ from Any.bytes_TrimLeft_one Tryd.laysV8 a bs.length c bs 48 w rfl hnc hbig hs.lib (by omega) (by decide)).mono ?_
    rintro e w' ⟨rfl, rfl⟩
    rw [lz_eq]
    have hl := lz_len bs
    have hd := lz_drop bs
    unfold Lib.leftV
    split
    · rename_i he
      have hz : lz bs = [] := List.eq_nil_of_length_eq_zero (by omega)
      exact ⟨none, 0, by rw [hz]; rfl, by rw [hz]; exact Nat.le_refl _, by omega, by rw [hz]; exact BAt.nil _ _, rfl⟩
    · rename_i he
      obtain ⟨g, o, rfl, _⟩ := hs 0 (bs[0]) (by simp)
      unfold Lib.fromV
      rw [if_neg (by omega)]
      refine ⟨some ⟨g, o + (bs.length - (lz bs).length), none⟩, c - (bs.length - (lz bs).length), ?_, by omega, by omega, ?_, rfl⟩
      · congr 2
        · simp only [Option.map_some, Option.some.injEq]
          unfold Addr.add
          split
          · rename_i h; simp [h]
          · rfl
        · omega
      · have h := hs.drop (bs.length - (lz bs).length)
        rw [← hd] at h
        exact h

theorem trimRight_any (a : Option Addr) (c : Nat) (bs : List UInt8) (w : World) (hnc : bs.length ≤ c) (hbig : c ≤ 9223372036854775807) (h0 : 0 < bs.length) (hs : BAt w a bs) :
    Calls Tryd.prog 23 #[.slice a bs.length c, .string ⟨#[48]⟩] w fun e w' => e = .returned (.slice a (rz bs).length c) ∧ w' = w := by
  refine (show Calls Tryd.prog 23 _ _ _ from Any.bytes_TrimRight_one Tryd.laysV7 a bs.length c bs 48 w rfl hnc hbig hs.lib h0 (by decide)).mono ?_
  rintro e w' ⟨rfl, rfl⟩
  exact ⟨by rw [rz_eq], rfl⟩

/-- The two variables of strconv hold errors. -/
def Errs (w : World) : Prop := ∃ e1 e2, w.cell? ⟨1, 0, none⟩ = some e1 ∧ (e1 = .nilIface ∨ ∃ t p, e1 = .iface t p) ∧ w.cell? ⟨2, 0, none⟩ = some e2 ∧ (e2 = .nilIface ∨ ∃ t p, e2 = .iface t p)
theorem Errs.later {w w' : World} (h : Errs w) (hb : Below w.heap.size w w') : Errs w' := by
  obtain ⟨e1, e2, h1, h2, h3, h4⟩ := h
  exact ⟨e1, e2, cell_later hb h1, h2, cell_later hb h3, h4⟩
/-- What ParseInt hands back. -/
def ParseRes (r : Lib.NumEnd Int) (w : World) (e : Ending) (w' : World) : Prop :=
  (match r with
  | .ok v => e = .returned (.tuple #[.int .i64 v, .nilIface])
  | _ => ∃ v t p, e = .returned (.tuple #[.int .i64 v, .iface t p])) ∧ Below w.heap.size w w'
theorem parseInt_any (s : ByteArray) (w : World) (he : Errs w) (hs : s.size ≤ 281474976710656) :
    Calls Tryd.prog 22 #[.string s, .int .i64 10, .int .i64 64] w fun e w' => ParseRes (Lib.parseIntB 64 s.data.toList) w e w' := by
  obtain ⟨e1, e2, h1, h2, h3, h4⟩ := he
  cases hr : Lib.parseIntB 64 s.data.toList with
  | ok v =>
    refine (Tryd.strconv_ParseInt_10_at64_ok s (by omega) v hr w).mono ?_
    rintro e w' ⟨rfl, hw⟩
    refine ⟨rfl, ?_⟩
    rcases hw with rfl | ⟨t, rfl⟩
    · exact Below.refl _ _
    · exact Lib.bytesWorld_below _ _ _
  | «syntax» =>
    refine (Tryd.strconv_ParseInt_10_at64_syntax s hs hr e1 w h1 h2).mono ?_
    rintro e w' ⟨N, rfl, _, _, hb⟩
    exact ⟨⟨_, _, _, rfl⟩, hb⟩
  | range =>
    refine (Tryd.strconv_ParseInt_10_at64_range s hs hr e2 w h3 h4).mono ?_
    rintro e w' ⟨N, rfl, _, _, hb⟩
    exact ⟨⟨_, _, _, rfl⟩, hb⟩

theorem bytesOf_vals (bs : List UInt8) : Lib.bytesOf (bs.map fun b => (b.toNat : Int)) = bs := by
  unfold Lib.bytesOf
  rw [List.map_map]
  conv => rhs; rw [← List.map_id bs]
  congr 1
  funext b
  simp
theorem count_any (a : Option Addr) (c : Nat) (bs : List UInt8) (g o d : Nat) (w : World) (hnil : a = none → bs.length = 0 ∧ c = 0) (hs : BAt w a bs) (hc : w.cell? ⟨g, o, none⟩ = some (.int .u8 95)) :
    Calls Tryd.prog 24 #[.slice a bs.length c, .slice (some ⟨g, o, none⟩) 1 d] w fun e w' => e = .returned (.int .i64 ((bs.count 95 : Nat) : Int)) ∧ w' = w := by
  cases a with
  | none =>
    obtain ⟨h1, rfl⟩ := hnil rfl
    have hb : bs = [] := List.eq_nil_of_length_eq_zero h1
    subst hb
    exact (Tryd.bytes_Count_one_nil g o d 95 w hc).mono fun e w' h => h
  | some ad =>
    refine (Tryd.bytes_Count_one_at ad bs.length c g o d (bs.map fun b => (b.toNat : Int)) 95 w (by simp) (fun i hi => ?_) hc).mono fun e w' ⟨h1, h2⟩ => ⟨?_, h2⟩
    · rw [hs.src i (.int .u8 ((bs[i]).toNat : Int)) (byteVals_get (by simp [hi]))]
      simp [List.getD, hi]
    · rw [h1, bytesOf_vals]
      rfl

end Go.Proofs.Qxb6600715aDoor
