/-
  Seat b6600314aD: runs, at each of its three keys. By an AI agent (seat 043).
-/
import Derived.Test.Qxb6600314aDoorW3
import Derived.Test.Qxb6600314aDoorMem
import Derived.Test.Qxb6600314aDoorPl
import Derived.Deep.RegionHeld3
import Derived.Deep.DrawnRows
import Derived.Deep.QuietTactic
import Derived.BigQuiet
set_option linter.unusedSimpArgs false
set_option linter.unusedVariables false
namespace Go.Proofs.Qxb6600314aDoor
open Go.RowKit
attribute [local go_sem ↓] Go.wp_at_zero Go.wp_at_succ

theorem info35 : (Tryd.prog.info? 35).map (fun i => (i.zero, i.size, i.bytes)) = some (some (.slice none 0 0), 1, 24) := by kernel_rfl
theorem info3 : (Tryd.prog.info? 3).map (fun i => (i.zero, i.size, i.bytes)) = some (some (.int .i64 0), 1, 8) := by kernel_rfl

/-- An id: phase, letters, number. -/
structure Id3 where
  p : ByteArray
  l : ByteArray
  s : ByteArray

/-- The slice of sprints in memory: what the four cells of each ID hold. -/
def SprAt (w : World) (b off : Nat) (ids : List Id3) : Prop :=
  ∀ (k : Nat) (i : Id3), ids[k]? = some i → w.cell? ⟨b, off + k * 18, none⟩ = some (.string i.p) ∧ w.cell? ⟨b, off + k * 18 + 1, none⟩ = some (.string i.l) ∧
    w.cell? ⟨b, off + k * 18 + 2, none⟩ = some (.string i.s) ∧ w.cell? ⟨b, off + k * 18 + 3, none⟩ = some (.string ByteArray.empty)
theorem SprAt.below {w w' : World} {b off : Nat} {ids : List Id3} (h : SprAt w b off ids) (hb : Below w.heap.size w w') : SprAt w' b off ids := fun k i hi => by
  obtain ⟨h0, h1, h2, h3⟩ := h k i hi
  exact ⟨cell_later hb h0, cell_later hb h1, cell_later hb h2, cell_later hb h3⟩

/-- The key of a position, as its bytes. -/
def keyAt (kf : Id3 → ByteArray) (ids : List Id3) (q : Nat) : List UInt8 := match ids[q]? with | some i => (kf i).toList | none => []

/-- A slice's length: for a loop's measure. -/
def lenOf : Value → Nat | .slice _ n _ => n | _ => 0

/-- The outer loop of runs. -/
def RunsRel (X : List Nat) (K : Nat → List UInt8) (ps : List Nat) (w : World) (c p : Value) (wr : World) : Prop :=
  ∃ (k : Nat) (pa : Option Addr) (pc : Nat) (R : List (List Nat)) (xs : List Value), k ≤ ps.length ∧ p = .slice pa (ps.length - k) pc ∧ ps.length - k ≤ pc ∧ Sees w X pa (ints (ps.drop k)) ∧
    R ++ cut K (ps.drop k) = cut K ps ∧ R.length ≤ k ∧ wr.ownsRow w.heap.size 35 1 c R.length xs ∧ RowsSee w X xs R ∧ Below w.heap.size w wr
/-- The inner loop. -/
def InRel (K : Nat → List UInt8) (l : List Nat) (w : World) (i : Value) (wx : World) : Prop :=
  ∃ j : Nat, 1 ≤ j ∧ j ≤ l.length ∧ i = .int .i64 (j : Int) ∧ Below w.heap.size w wx ∧ ∀ i, 1 ≤ i → i < j → (K (l.getD i 0) == K (l.getD 0 0)) = true

/-- What runs hands back: a row of slices that read as R. -/
def CutRes (X : List Nat) (w : World) (R : List (List Nat)) (e : Ending) (w' : World) : Prop :=
  ∃ a cap xs, e = .returned (.slice a R.length cap) ∧ Sees w' X a xs ∧ RowsSee w' X xs R ∧ Below w.heap.size w w'

theorem keyAt_get {kf : Id3 → ByteArray} {ids : List Id3} {q : Nat} {i : Id3} (h : ids[q]? = some i) : keyAt kf ids q = (kf i).toList := by simp [keyAt, h]

/-- The rest of a round of runs: the run is appended, the positions go on behind it. -/
theorem runs_rel_step {X : List Nat} {K : Nat → List UInt8} {ps : List Nat} {w wr : World} {c : Value} {k j : Nat} {b off pcap : Nat} {R : List (List Nat)} {xs : List Value}
    (hk : k + j ≤ ps.length) (hcap : ps.length - k ≤ pcap) (hp : Sees w X (some ⟨b, off, none⟩) (ints (ps.drop k))) (hR : R ++ cut K (ps.drop k) = cut K ps)
    (hcut : cut K (ps.drop k) = (ps.drop k).take j :: cut K ((ps.drop k).drop j)) (hj : 1 ≤ j) (hRk : R.length ≤ k) (hown : wr.ownsRow w.heap.size 35 1 c (R.length + 1) (xs ++ [.slice (some ⟨b, off, none⟩) j pcap]))
    (hrows : RowsSee w X xs R) (hb : Below w.heap.size w wr) (pa : Option Addr) (hpa : k + j < ps.length → pa = some ⟨b, off + j, none⟩) :
    RunsRel X K ps w c (.slice pa (ps.length - (k + j)) (pcap - j)) wr := by
  refine ⟨k + j, pa, pcap - j, R ++ [(ps.drop k).take j], xs ++ [.slice (some ⟨b, off, none⟩) j pcap], hk, rfl, by omega, ?_, ?_, by simp; omega, ?_, ?_, hb⟩
  · by_cases h : k + j < ps.length
    · rw [hpa h]
      have := hp.sub j ps.length
      rw [List.take_of_length_le (by simp [ints])] at this
      rw [← List.drop_drop]
      simpa [ints, List.map_drop] using this
    · rw [List.drop_of_length_le (by omega)]
      exact Sees.nil _ _ _
  · rw [← hR, hcut, List.drop_drop]
    simp
  · simpa using hown
  · have hl : ((ps.drop k).take j).length = j := by simp; omega
    have := hrows.snoc (zs := (ps.drop k).take j) (a := some ⟨b, off, none⟩) (cap := pcap) (by rw [hl]; omega) (by have := hp.take j; simpa [ints, List.map_take] using this)
    rwa [hl] at this

end Go.Proofs.Qxb6600314aDoor
