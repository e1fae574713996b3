/-
  Seat b6601132aD: plain laws of grouping digits. By an AI agent (seat 043).
-/
import Derived.Lib.SlTrimSet
set_option linter.unusedSimpArgs false
set_option linter.unusedVariables false
namespace Go.Proofs.Qxb6601132aDoor

def isDig (b : UInt8) : Bool := decide (48 ≤ b.toNat) && decide (b.toNat ≤ 57)
def ng (s : List UInt8) : Bool := match s with | c :: _ => c == 45 | [] => false
def body (s : List UInt8) : List UInt8 := if ng s then s.drop 1 else s
def whole (d : List UInt8) : List UInt8 := d.takeWhile (· != 46)
def rest (d : List UInt8) : List UInt8 := d.dropWhile (· != 46)
def frac (d : List UInt8) : List UInt8 := (rest d).drop 1
def hasPt (d : List UInt8) : Bool := decide (rest d ≠ [])
/-- A comma ahead of each digit that has a number of digits from it on that three divides, but for the first. -/
def ins : Bool → List UInt8 → List UInt8
  | _, [] => []
  | f, c :: r => (if f = false ∧ (r.length + 1) % 3 = 0 then [44] else []) ++ c :: ins false r
def isNum (s : List UInt8) : Bool := decide (whole (body s) ≠ []) && (whole (body s)).all isDig
def tailP (d : List UInt8) : List UInt8 := if hasPt d then 46 :: frac d else []
def grpN (s : List UInt8) : List UInt8 := (if ng s then [45] else []) ++ ins true (whole (body s)) ++ tailP (body s)
/-- What appendGrouped appends. -/
def grp (s : List UInt8) : List UInt8 := if isNum s then grpN s else s

theorem tail_rest (d : List UInt8) : tailP d = rest d := by
  unfold tailP hasPt frac
  cases h : rest d with
  | nil => simp
  | cons c r =>
    have : c = 46 := by
      unfold rest at h
      have := List.head?_dropWhile_not (p := fun x : UInt8 => x != 46) d
      rw [h] at this
      simpa using this
    subst this
    simp
theorem whole_rest (d : List UInt8) : whole d ++ rest d = d := List.takeWhile_append_dropWhile
theorem body_eq (s : List UInt8) : (if ng s then [45] else []) ++ body s = s := by
  unfold body
  cases s with
  | nil => simp [ng]
  | cons c r =>
    by_cases h : c = 45
    · subst h; simp [ng]
    · simp [ng, h]
theorem grpN_eq (s : List UInt8) : grpN s = (if ng s then [45] else []) ++ ins true (whole (body s)) ++ rest (body s) := by
  unfold grpN; rw [tail_rest]

/-! The first law: the commas alone are new. -/
theorem ins_plain (l : List UInt8) : ∀ f, (ins f l).filter (· != 44) = l.filter (· != 44) := by
  induction l with
  | nil => intro f; rfl
  | cons c r ih =>
    intro f
    have h44 : ((if f = false ∧ (r.length + 1) % 3 = 0 then [44] else []) : List UInt8).filter (· != 44) = [] := by split <;> simp
    show ((if f = false ∧ (r.length + 1) % 3 = 0 then [44] else []) ++ c :: ins false r).filter (· != 44) = _
    rw [List.filter_append, h44, List.nil_append, List.filter_cons, List.filter_cons, ih false]
theorem grp_plain (s : List UInt8) : (grp s).filter (· != 44) = s.filter (· != 44) := by
  unfold grp
  split
  · rw [grpN_eq, List.filter_append, List.filter_append, ins_plain, ← List.filter_append, ← List.filter_append, List.append_assoc, whole_rest, body_eq]
  · rfl

/-! The second: once is enough. -/
theorem ins_short (l : List UInt8) (h : l.length ≤ 3) : ins true l = l := by
  match l, h with
  | [], _ => rfl
  | [a], _ => rfl
  | [a, b], _ => rfl
  | [a, b, c], _ => rfl
theorem ins_comma (l : List UInt8) : ∀ f, 3 < l.length ∨ (f = false ∧ 3 ≤ l.length) → (44 : UInt8) ∈ ins f l := by
  induction l with
  | nil => intro f h; simp at h
  | cons c r ih =>
    intro f h
    show (44 : UInt8) ∈ (if f = false ∧ (r.length + 1) % 3 = 0 then [44] else []) ++ c :: ins false r
    by_cases h3 : 3 ≤ r.length
    · have := ih false (.inr ⟨rfl, h3⟩)
      simp [this]
    · have hf : f = false := by
        rcases h with h | h
        · simp at h; omega
        · exact h.1
      have hr : r.length = 2 := by
        rcases h with h | h <;> simp at h <;> omega
      rw [if_pos ⟨hf, by omega⟩]
      simp
theorem ins_no46 (l : List UInt8) (hl : ∀ c ∈ l, c ≠ 46) : ∀ f, ∀ c ∈ ins f l, c ≠ 46 := by
  induction l with
  | nil => intro f c hc; cases hc
  | cons x r ih =>
    intro f c hc
    have hc' : c ∈ (if f = false ∧ (r.length + 1) % 3 = 0 then [44] else []) ++ x :: ins false r := hc
    rw [List.mem_append] at hc'
    rcases hc' with h | h
    · split at h
      · simp at h; subst h; decide
      · cases h
    · rcases List.mem_cons.1 h with rfl | h
      · exact hl _ (by simp)
      · exact ih (fun c hc => hl c (by simp [hc])) false c h
theorem mem_tw {p : UInt8 → Bool} : ∀ (l : List UInt8) (c : UInt8), c ∈ l.takeWhile p → p c = true
  | [], c, h => by simp at h
  | x :: l, c, h => by
    rw [List.takeWhile_cons] at h
    split at h
    · rcases List.mem_cons.1 h with rfl | h
      · assumption
      · exact mem_tw l c h
    · cases h
theorem dw_nil {p : UInt8 → Bool} : ∀ (l : List UInt8), l.dropWhile p = [] ↔ ∀ c ∈ l, p c = true
  | [] => by simp
  | x :: l => by
    rw [List.dropWhile_cons]
    split
    · rename_i h
      rw [dw_nil l]
      simp [h]
    · rename_i h
      simp [h]
theorem whole_no46 (d : List UInt8) : ∀ c ∈ whole d, c ≠ 46 := by
  intro c hc
  have := mem_tw _ c hc
  simpa using this
theorem body_t (z : List UInt8) (h : ng z = true) : body z = z.drop 1 := by unfold body; rw [if_pos h]
theorem body_f (z : List UInt8) (h : ng z = false) : body z = z := by unfold body; rw [h]; rfl
theorem whole_app (x d : List UInt8) (hx : ∀ c ∈ x, c ≠ 46) : whole (x ++ rest d) = x := by
  unfold whole
  rw [List.takeWhile_append_of_pos (by intro c hc; simpa using hx c hc)]
  have : (rest d).takeWhile (· != 46) = [] := by
    cases h : rest d with
    | nil => rfl
    | cons c r =>
      have h2 := List.head?_dropWhile_not (p := fun x : UInt8 => x != 46) d
      unfold rest at h
      rw [h] at h2
      simp at h2
      subst h2
      rfl
  rw [this, List.append_nil]
theorem ins_ne (l : List UInt8) (f : Bool) (h : l ≠ []) : ins f l ≠ [] := by
  cases l with
  | nil => exact absurd rfl h
  | cons c r =>
    show (_ ++ c :: ins false r) ≠ []
    simp
theorem ng_digit (x y : List UInt8) (hx : ∀ c ∈ x, isDig c = true ∨ c = 44) (hne : x ≠ []) : ng (x ++ y) = false := by
  cases x with
  | nil => exact absurd rfl hne
  | cons c r =>
    have h := hx c (by simp)
    show (c == 45) = false
    rw [beq_eq_false_iff_ne]
    rintro rfl
    rcases h with h | h
    · revert h; decide
    · revert h; decide
theorem ins_mem (l : List UInt8) (hl : l.all isDig = true) : ∀ f, ∀ c ∈ ins f l, isDig c = true ∨ c = 44 := by
  induction l with
  | nil => intro f c hc; cases hc
  | cons x r ih =>
    intro f c hc
    rw [List.all_cons, Bool.and_eq_true] at hl
    have hc' : c ∈ (if f = false ∧ (r.length + 1) % 3 = 0 then [44] else []) ++ x :: ins false r := hc
    rw [List.mem_append] at hc'
    rcases hc' with h | h
    · split at h
      · simp at h; exact .inr h
      · cases h
    · rcases List.mem_cons.1 h with rfl | h
      · exact .inl hl.1
      · exact ih hl.2 false c h
theorem grp_grp (s : List UInt8) : grp (grp s) = grp s := by
  by_cases hn : isNum s = true
  · have e : grp s = grpN s := by unfold grp; rw [if_pos hn]
    rw [e]
    have hn' := hn
    unfold isNum at hn'
    rw [Bool.and_eq_true, decide_eq_true_eq] at hn'
    obtain ⟨h0, hd⟩ := hn'
    by_cases h3 : (whole (body s)).length ≤ 3
    · have : grpN s = s := by rw [grpN_eq, ins_short _ h3, List.append_assoc, whole_rest, body_eq]
      rw [this, e, this]
    · have hc := ins_comma (whole (body s)) true (.inl (by omega))
      have h46 := ins_no46 (whole (body s)) (whole_no46 _) true
      have hb : whole (body (grpN s)) = ins true (whole (body s)) := by
        rw [grpN_eq]
        have hx : ng ((if ng s then [45] else []) ++ ins true (whole (body s)) ++ rest (body s)) = ng s := by
          cases hs : ng s with
          | true => simp [ng]
          | false =>
            simp only [Bool.false_eq_true, if_false, List.nil_append]
            exact ng_digit _ _ (ins_mem _ hd true) (ins_ne _ _ h0)
        have hy : body ((if ng s then [45] else []) ++ ins true (whole (body s)) ++ rest (body s)) = ins true (whole (body s)) ++ rest (body s) := by
          cases hs : ng s with
          | true =>
            rw [hs] at hx
            rw [body_t _ hx]
            simp
          | false =>
            rw [hs] at hx
            rw [body_f _ hx]
            simp
        rw [hy]
        exact whole_app _ _ h46
      have hnn : isNum (grpN s) = false := by
        unfold isNum
        rw [hb]
        have : (ins true (whole (body s))).all isDig = false := by
          rw [List.all_eq_false]
          exact ⟨44, hc, by decide⟩
        rw [this, Bool.and_false]
      unfold grp
      rw [hnn]
      rfl
  · have e : grp s = s := by unfold grp; rw [if_neg hn]
    rw [e, e]
theorem grp_nil (s : List UInt8) : grp s = [] ↔ s = [] := by
  constructor
  · intro h
    unfold grp at h
    split at h
    · rename_i hn
      unfold isNum at hn
      rw [Bool.and_eq_true, decide_eq_true_eq] at hn
      rw [grpN_eq] at h
      simp only [List.append_eq_nil_iff] at h
      exact absurd h.1.2 (ins_ne _ _ hn.1)
    · exact h
  · rintro rfl; rfl

/-! How the library says it. -/
set_option maxRecDepth 100000 in
theorem trim_all (l : List UInt8) : (Lib.trimS l [48, 49, 50, 51, 52, 53, 54, 55, 56, 57] = []) ↔ l.all isDig = true := by
  have hd : ∀ c : UInt8, ([48, 49, 50, 51, 52, 53, 54, 55, 56, 57] : List UInt8).contains c = isDig c  := by
    have h : ∀ n : Fin 256, ([48, 49, 50, 51, 52, 53, 54, 55, 56, 57] : List UInt8).contains (UInt8.ofNat n.val) = isDig (UInt8.ofNat n.val) := by decide
    intro c
    have := h ⟨c.toNat, c.toNat_lt⟩
    simpa using this
  have hf : (fun c => ([48, 49, 50, 51, 52, 53, 54, 55, 56, 57] : List UInt8).contains c) = isDig := funext hd
  unfold Lib.trimS Lib.trimLeftS Lib.trimRightS
  rw [hf]
  constructor
  · intro h
    rw [dw_nil] at h
    have h1 : l.reverse.dropWhile isDig = [] := by
      cases h2 : l.reverse.dropWhile isDig with
      | nil => rfl
      | cons c r =>
        have h3 := h c (by rw [h2]; simp)
        have h4 := List.head?_dropWhile_not (p := isDig) l.reverse
        rw [h2] at h4
        simp only [List.head?_cons] at h4
        rw [h3] at h4
        cases h4
    rw [dw_nil] at h1
    rw [List.all_eq_true]
    intro c hc
    exact h1 c (by simpa using hc)
  · intro h
    rw [List.all_eq_true] at h
    rw [dw_nil]
    have h1 : l.reverse.dropWhile isDig = [] := by
      rw [dw_nil]
      intro c hc
      exact h c (by simpa using hc)
    rw [h1]
    intro c hc
    cases hc

end Go.Proofs.Qxb6601132aDoor
