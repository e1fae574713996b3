/-
  Seat b6601132aD: what the library's calls say, in the law's words. By an AI agent (seat 043).
-/
import Derived.Test.Qxb6601132aDoorShelf
import Derived.Test.Qxb6601132aDoorW2
set_option linter.unusedSimpArgs false
set_option linter.unusedVariables false
namespace Go.Proofs.Qxb6601132aDoor
open Go.RowKit

theorem pre_ng (l : List UInt8) : Lib.hasPrefix l [45] = ng l := by
  cases l with
  | nil => rfl
  | cons c r =>
    show ([45] : List UInt8).isPrefixOf (c :: r) = (c == 45)
    simp only [List.isPrefixOf, Bool.and_true]
    by_cases h : c = 45
    · subst h; rfl
    · have h1 : ((45 : UInt8) == c) = false := by rw [beq_eq_false_iff_ne]; exact fun e => h e.symm
      have h2 : (c == 45) = false := by rw [beq_eq_false_iff_ne]; exact h
      rw [h1, h2]
theorem pre_body (l : List UInt8) : Lib.trimPrefix l [45] = body l := by
  unfold Lib.trimPrefix body
  rw [pre_ng]
  rfl
theorem index_dot (d : List UInt8) : Lib.index d [46] = if rest d = [] then -1 else ((whole d).length : Int) := by
  induction d with
  | nil => rfl
  | cons c r ih =>
    by_cases h : c = 46
    · subst h
      rfl
    · have h1 : ((46 : UInt8) == c) = false := by rw [beq_eq_false_iff_ne]; exact fun e => h e.symm
      have h2 : (c != 46) = true := by simpa using h
      have hw : whole (c :: r) = c :: whole r := by unfold whole; rw [List.takeWhile_cons, if_pos h2]
      have hr : rest (c :: r) = rest r := by unfold rest; rw [List.dropWhile_cons, if_pos h2]
      have hp : ([46] : List UInt8).isPrefixOf (c :: r) = false := by simp [List.isPrefixOf, h1]
      unfold Lib.index
      rw [hp, ih, hw, hr]
      by_cases h0 : rest r = []
      · simp [h0]
      · simp only [h0, if_false, Bool.false_eq_true]
        have : (((whole r).length : Int) == -1) = false := by rw [beq_eq_false_iff_ne]; omega
        rw [this]
        simp
theorem cut_eq (d : List UInt8) : Lib.cut d [46] = (whole d, frac d, hasPt d) := by
  have hwr := whole_rest d
  unfold Lib.cut
  rw [index_dot]
  by_cases h0 : rest d = []
  · have hw : whole d = d := by rw [h0, List.append_nil] at hwr; exact hwr
    have hf : frac d = [] := by unfold frac; rw [h0]; rfl
    have hp : hasPt d = false := by unfold hasPt; simp [h0]
    rw [if_pos h0, if_neg (by omega), hw, hf, hp]
  · have hp : hasPt d = true := by unfold hasPt; simp [h0]
    rw [if_neg h0, if_pos (by omega), hp]
    have ht : d.take (whole d).length = whole d := by
      have := List.take_left (l₁ := whole d) (l₂ := rest d)
      rw [hwr] at this
      exact this
    have hd : d.drop ((whole d).length + 1) = frac d := by
      have := List.drop_left (l₁ := whole d) (l₂ := rest d)
      rw [hwr] at this
      unfold frac
      rw [← List.drop_drop, this]
    simp only [Int.toNat_natCast, List.length_singleton]
    rw [ht, hd]

theorem libs_of {w : World} (hM : ∃ m, w.cell? ⟨0, 0, none⟩ = some (.int .i64 m)) : Libs w where
  cp := fun l w1 => by
    refine (Tryd.strings_CutPrefix (Str l) ⟨#[45]⟩ w1).mono ?_
    rintro e w' ⟨rfl, rfl⟩
    refine ⟨?_, Below.refl _ _⟩
    show Ending.returned (.tuple #[.string ⟨(Lib.trimPrefix l [45]).toArray⟩, .bool (Lib.hasPrefix l [45])]) = _
    rw [pre_ng, pre_body]
  ct := fun l w1 hb hl => by
    obtain ⟨m, hm⟩ := hM
    refine (Tryd.strings_Cut (Str l) ⟨#[46]⟩ m w1 (by rw [str_size]; omega) (cell_later hb hm)).mono ?_
    rintro e w' ⟨rfl, n, rfl⟩
    refine ⟨?_, ⟨rfl, rfl, rfl, Nat.le_refl _, fun _ _ => rfl⟩⟩
    show Ending.returned (.tuple #[.string ⟨(Lib.cut l [46]).1.toArray⟩, .string ⟨(Lib.cut l [46]).2.1.toArray⟩, .bool (Lib.cut l [46]).2.2]) = _
    rw [cut_eq]
  tr := fun l w1 hl => by
    refine (show Calls Tryd.prog 19 _ _ _ from Any.strings_Trim_laid Tryd.lays160 (by kernel_rfl) (Str l) ⟨#[48, 49, 50, 51, 52, 53, 54, 55, 56, 57]⟩ w1 (by rw [str_size]; omega) (by decide) (ascii_of_all (by decide))).mono ?_
    rintro e w' ⟨rfl, hb⟩
    exact ⟨rfl, hb⟩

end Go.Proofs.Qxb6601132aDoor
