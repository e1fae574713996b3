/-
  Seat b6600314aD: byNumber. By an AI agent (seat 043).
-/
import Derived.Test.Qxb6600314aDoorW5
import Derived.Test.Qxb6600314aDoorW4a
import Derived.Test.Qxb6600314aDoorW4b
import Derived.Test.Qxb6600314aDoorW4c
set_option linter.unusedSimpArgs false
set_option linter.unusedVariables false
namespace Go.Proofs.Qxb6600314aDoor
open Go.RowKit

def AllRel (n : Nat) (w : World) (i : Value) (wr : World) : Prop :=
  ∃ k : Nat, k ≤ n ∧ i = .int .i64 (k : Int) ∧ wr.ownsRow w.heap.size 3 1 (.slice (some ⟨w.heap.size, 0, none⟩) n n) n (fillV (ints (List.range n)) (.int .i64 0) n k) ∧ Below w.heap.size w wr

/-- The loop over phases. -/
def PRel (TK GK : Nat → List UInt8) (n D : Nat) (phases : List (List Nat)) (w0 wP : World) (v6 i : Value) (wr : World) : Prop :=
  ∃ (x : Nat) (deps : List (List Nat)) (pb : List Nat) (a : Option Addr) (cap : Nat), x ≤ phases.length ∧ i = .int .i64 (x : Int) ∧
    (phases.take x).foldl (stepP TK GK) (List.replicate n [], []) = (deps, pb) ∧ pb.length ≤ 1024 * 1024 ∧
    Deps D n [D] wr deps ∧ v6 = .slice a pb.length cap ∧ pb.length ≤ cap ∧ Sees wr [D] a (ints pb) ∧ Kept [D] wP wr ∧ Below w0.heap.size w0 wr
/-- The loop over a phase's tracks. -/
def TRel (GK : Nat → List UInt8) (n D : Nat) (pb : List Nat) (depsP : List (List Nat)) (tracks : List (List Nat)) (w0 wT : World) (v9 i : Value) (wr : World) : Prop :=
  ∃ (y : Nat) (deps : List (List Nat)) (ends E : List Nat), y ≤ tracks.length ∧ i = .int .i64 (y : Int) ∧
    (tracks.take y).foldl (stepT GK pb) (depsP, []) = (deps, ends) ∧ ends.length ≤ 1024 * y ∧ (∀ e ∈ E, wT.heap.size ≤ e ∧ e < wr.heap.size) ∧
    Deps D n ([D] ++ E) wr deps ∧ wr.ownsRow wT.heap.size 3 1 v9 ends.length (ints ends) ∧ (∀ e, v9.ownBlock = some e → e ∈ E) ∧ Kept [D] wT wr ∧ Below w0.heap.size w0 wr
/-- The loop over a track's groups. -/
def GRel (n D : Nat) (E pb : List Nat) (depsT : List (List Nat)) (groups : List (List Nat)) (w0 wG : World) (v12 i : Value) (wr : World) : Prop :=
  ∃ (z : Nat) (deps : List (List Nat)) (gb : List Nat) (a : Option Addr) (cap : Nat), z ≤ groups.length ∧ i = .int .i64 (z : Int) ∧
    (groups.take z).foldl stepG (depsT, pb) = (deps, gb) ∧ (0 < z → gb ≠ [] ∧ gb.length ≤ 1024) ∧ gb.length ≤ 1024 * 1024 ∧
    Deps D n ([D] ++ E) wr deps ∧ v12 = .slice a gb.length cap ∧ gb.length ≤ cap ∧ Sees wr ([D] ++ E) a (ints gb) ∧ Kept [D] wG wr ∧ Below w0.heap.size w0 wr
/-- The loop over a group's members. -/
def IRel (n D : Nat) (E gb : List Nat) (depsG : List (List Nat)) (group : List Nat) (w0 wI : World) (i : Value) (wr : World) : Prop :=
  ∃ q : Nat, q ≤ group.length ∧ i = .int .i64 (q : Int) ∧ Deps D n ([D] ++ E) wr (setAll depsG gb (group.take q)) ∧ Kept [D] wI wr ∧ Below w0.heap.size w0 wr

theorem RowsSee.zeros (w : World) (X : List Nat) (n : Nat) : RowsSee w X (List.replicate n (.slice none 0 0)) (List.replicate n []) := by
  refine ⟨by simp, fun k zs hz => ?_⟩
  rw [List.getElem?_replicate] at hz
  split at hz
  · cases hz
    exact ⟨none, 0, by rw [List.getElem?_replicate, if_pos (by assumption)]; rfl, Nat.le_refl _, Sees.nil _ _ _⟩
  · cases hz

set_option maxHeartbeats 4000000 in
theorem byNumber_any (sb so n sc : Nat) (ids : List Id3) (w : World) (hn : ids.length = n) (hn2 : n ≤ 1024) (hs : SprAt w sb so ids) :
    Calls Tryd.prog 18 #[.slice (some ⟨sb, so, none⟩) n sc] w fun e w' => CutRes [] w (byNum (keyAt (fun i => canon i.p) ids) (keyAt (fun i => i.l) ids) (keyAt (fun i => canon i.s) ids) n) e w' := by
  obtain ⟨t3, hi3, hz30, hz31, hz32⟩ := info_parts info3
  obtain ⟨t35, hi35, hz350, hz351, hz352⟩ := info_parts info35
  generalize hPK : keyAt (fun i => canon i.p) ids = PK at *
  generalize hTK : keyAt (fun i => i.l) ids = TK at *
  generalize hGK : keyAt (fun i => canon i.s) ids = GK at *
  have HPK : Hid _ := hPK
  have HTK : Hid _ := hTK
  have HGK : Hid _ := hGK
  clear hPK hTK hGK
  go_enter Tryd.func18, Tryd.ntmps18
  go_wp2_with (at_make; refine wpList_make_full _ rfl _ _ 35 rfl w.heap.size 3 t3 (.int .i64 0) 1 Tryd.underlying35 hi3 hz30 hz31 .i64 .i64 _ _ n rfl rfl rfl rfl (by rw [hz32]; omega) (by unfold maxLen; omega) (Nat.le_refl _) ?_; intro w1 hown hgrow)
  have hb1 : Below w.heap.size w w1 := (Below.refl _ _).grown hgrow (Nat.le_refl _) (fun k h => by cases h)
  have hown0 : w1.ownsRow w.heap.size 3 1 (.slice (some ⟨w.heap.size, 0, none⟩) n n) n (fillV (ints (List.range n)) (.int .i64 0) n 0) := by
    rw [fillV_zero]
    simpa [toList_madeCells_one, Value.cells] using hown
  clear hown hgrow
  go_loopw [22] (fun i wr => AllRel n w i wr) (fun i _ => n - (intOf i).toNat)
  case atStart => exact ⟨0, Nat.zero_le _, rfl, hown0, hb1⟩
  case round =>
    obtain ⟨k, hk, rfl, hownr, hbr⟩ := hrel
    by_cases hlt : k < n
    · have hfr := hownr.frozenAt k
      obtain ⟨old, hck⟩ := someAt hownr k (by omega)
      obtain ⟨h1, h2⟩ := hownr.stored k (.int .i64 (k : Int))
      rw [fillV_set _ _ _ n k (by simp [ints]) (ints_get (by simp [hlt]))] at h1
      have hb2 := hbr.grown h2 hbr.size (fun j h => by cases h; exact Nat.le_refl _)
      clear h2 hb1 hown0
      go_wp2
      go_roundw
      case rel => exact ⟨k + 1, by omega, by go_num, h1, hb2⟩
      case measure => simp [intOf]; omega
    · have hkn : k = n := by omega
      subst hkn
      rw [fillV_full _ _ _ (by simp [ints])] at hownr
      clear hb1 hown0
      go_wp2_with (at_make; refine wpList_make_full _ rfl _ _ 26 rfl wr.heap.size 35 t35 (.slice none 0 0) 1 Tryd.underlying26 hi35 hz350 hz351 .i64 .i64 _ _ k rfl rfl rfl rfl (by rw [hz352]; omega) (by unfold maxLen; omega) (Nat.le_refl _) ?_; intro w2 hown2 hgrow2)
      have hb12 : Below wr.heap.size wr w2 := (Below.refl _ _).grown hgrow2 (Nat.le_refl _) (fun k h => by cases h)
      have hbw2 : Below w.heap.size w w2 := below_step hbr hb12
      have hND : w.heap.size < wr.heap.size := (hownr.lt w.heap.size rfl).2
      have hdeps0 : Deps wr.heap.size k [wr.heap.size] w2 (List.replicate k []) := ⟨List.replicate k (.slice none 0 0), by simpa [toList_madeCells_one, Value.cells] using hown2, RowsSee.zeros _ _ _⟩
      obtain ⟨aA, capA, eA, hcA, hsA⟩ := Sees.of_owns (X := [wr.heap.size]) (owns_later hownr hb12) (fun g hg => by simp [Value.ownBlock] at hg; subst hg; simp; omega)
      simp only [Value.slice.injEq, true_and] at eA
      obtain ⟨rfl, rfl⟩ := eA
      have hDlt := hdeps0.lt
      generalize wr.heap.size = D at *
      have R := runs_22 [D] sb so k sc (some ⟨w.heap.size, 0, none⟩) k ids (List.range k) w2 hn hn2 (by simpa using hn2) (by simp) (by simpa using hDlt) hsA (hs.below hbw2) (by simp)
      rw [List.length_range, HPK.out] at R
      clear hown2 hgrow2 hb12 hownr hbr hlt hk
      refine R.mono ?_
      clear R
      rintro e w3 ⟨aP, capP, xsP, rfl, hsP, hrP, hb3⟩
      have hplen := cut_len PK (List.range k)
      have hpmem := fun g (hg : g ∈ cut PK (List.range k)) => cut_mem PK (List.range k) g hg
      rw [List.length_range] at hplen
      have hgoal : byNum PK TK GK k = ((cut PK (List.range k)).foldl (stepP TK GK) (List.replicate k [], [])).1 := rfl
      have HGOAL : Hid _ := hgoal
      clear hgoal
      generalize hph : cut PK (List.range k) = phases at *
      clear hph
      have hdeps3 := hdeps0.below hb3
      have hbw3 := below_step hbw2 hb3
      clear hdeps0 hsA hb3 hDlt
      go_wp2
      go_loopw [6, 37] (fun v6 i wr => PRel TK GK k D phases w w3 v6 i wr) (fun _ i _ => phases.length - (intOf i).toNat)
      case atStart => exact ⟨0, List.replicate k [], [], none, 0, Nat.zero_le _, rfl, rfl, by simp, hdeps3, rfl, by simp, Sees.nil _ _ _, Kept.refl _ _, hbw3⟩
      case round =>
        clear hbw3 hdeps3
        rename World => W0
        obtain ⟨x, deps, pb, a6, cap6, hx, rfl, hfold, hpbl, hdeps, rfl, hcap6, hs6, hkP, hbP⟩ := hrel
        by_cases hltx : x < phases.length
        · have hxg : phases[x]? = some (phases[x]) := by simp [hltx]
          have HFP : Hid (((phases.take (x + 1)).foldl (stepP TK GK) (List.replicate k [], [])) = runPhase TK GK pb deps phases[x]) := by
            show _ = _
            rw [fold_take _ _ _ _ _ hxg, hfold]; rfl
          obtain ⟨hphne, hphmem, hphlen⟩ := hpmem phases[x] (List.getElem_mem _)
          rw [List.length_range] at hphlen
          obtain ⟨a8, cap8, hx8, hc8, hs8⟩ := hrP.2 x _ hxg
          obtain ⟨bP, oP, rfl, _, hcx⟩ := hsP x _ hx8
          have hcx' := (hsP.kept hkP) x _ hx8
          obtain ⟨bP', oP', eP, _, hcxr⟩ := hcx'
          cases eP
          have hs8r := hs8.kept hkP
          generalize phases[x] = phase at *
          have R := runs_23 [D] sb so k sc a8 cap8 ids phase W0 hn hn2 (by omega) hc8 (by simpa using hdeps.lt) hs8r (hs.below hbP) (fun p hp => by simpa using hphmem p hp)
          rw [HTK.out] at R
          have HR : Hid _ := R
          clear R hfold hcx
          have hxi : (x : Int) < (phases.length : Int) := by omega
          go_wp2_with fail
          refine (show Calls _ _ _ _ _ from HR.out).mono ?_
          clear HR
          rintro e w4 ⟨aT, capT, xsT, rfl, hsT, hrT, hb4⟩
          have htlen := cut_len TK phase
          have htmem := fun g (hg : g ∈ cut TK phase) => cut_mem TK phase g hg
          have hrun : runPhase TK GK pb deps phase = (cut TK phase).foldl (stepT GK pb) (deps, []) := rfl
          rw [hrun] at HFP
          clear hrun
          generalize cut TK phase = tracks at *
          have hdeps4 := hdeps.below hb4
          have hDw4 := hdeps4.lt
          have hbw4 := below_step hbP hb4
          have hk4 : Kept [D] w3 w4 := hkP.trans (Kept.of_below hb4)
          have hs64 := hs6.below hb4
          clear hdeps hb4 hs6 hkP hbP hcxr hs8r
          go_wp2
          go_loopw [9, 45] (fun v9 i wr => TRel GK k D pb deps tracks w w4 v9 i wr) (fun _ i _ => tracks.length - (intOf i).toNat)
          case atStart => exact ⟨0, deps, [], [], Nat.zero_le _, rfl, rfl, by simp, by simp, by simpa using hdeps4, World.ownsRow_nil _ _ _ _, fun e he => by simp [Value.ownBlock] at he, Kept.refl _ _, hbw4⟩
          case round =>
            clear hdeps4 hbw4
            rename World => W1
            obtain ⟨y, depsT, ends, E, hy, rfl, hfoldT, hendl, hE, hdepsT, hown9, hE9, hkT, hbT⟩ := hrel
            have hbaseT : w4.heap.size ≤ W1.heap.size := hkT.size
            by_cases hlty : y < tracks.length
            · have hyg : tracks[y]? = some (tracks[y]) := by simp [hlty]
              have HFT : Hid (((tracks.take (y + 1)).foldl (stepT GK pb) (deps, [])) = ((runTrack GK pb depsT tracks[y]).1, ends ++ (runTrack GK pb depsT tracks[y]).2)) := by
                show _ = _
                rw [fold_take _ _ _ _ _ hyg, hfoldT]; rfl
              obtain ⟨htrne, htrmem, htrlen⟩ := htmem tracks[y] (List.getElem_mem _)
              obtain ⟨a11, cap11, hx11, hc11, hs11⟩ := hrT.2 y _ hyg
              have hEge : ∀ e ∈ E, w4.heap.size ≤ e := fun e he => (hE e he).1
              obtain ⟨bT, oT, rfl, _, hcyr⟩ := (hsT.over hkT hEge) y _ hx11
              have hs11r := hs11.over hkT hEge
              have hs6r := hs64.over hkT hEge
              have hXlt : ∀ x ∈ [D] ++ E, x < W1.heap.size := by
                intro x hx
                simp only [List.cons_append, List.nil_append, List.mem_cons] at hx
                rcases hx with rfl | hx
                · exact hdepsT.lt
                · exact (hE x hx).2
              generalize tracks[y] = track at *
              have R := runs_24 ([D] ++ E) sb so k sc a11 cap11 ids track W1 hn hn2 (by omega) hc11 hXlt hs11r (hs.below hbT) (fun p hp => by simpa using hphmem p (htrmem p hp))
              rw [HGK.out] at R
              have HR : Hid _ := R
              clear R hfoldT
              have hyi : (y : Int) < (tracks.length : Int) := by omega
              go_wp2_with fail
              refine (show Calls _ _ _ _ _ from HR.out).mono ?_
              clear HR
              rintro e w5 ⟨aG, capG, xsG, rfl, hsG, hrG, hb5⟩
              have hglen := cut_len GK track
              have hgne := cut_ne GK track htrne
              have hgmem := fun g (hg : g ∈ cut GK track) => cut_mem GK track g hg
              have hrun : runTrack GK pb depsT track = (cut GK track).foldl stepG (depsT, pb) := rfl
              rw [hrun] at HFT
              clear hrun
              generalize cut GK track = groups at *
              have hdeps5 := hdepsT.below hb5
              have hbw5 := below_step hbT hb5
              have hk5 : Kept [D] w4 w5 := hkT.trans (Kept.of_below hb5)
              have hs65 := hs6r.below hb5
              have hown95 := owns_later hown9 hb5
              have hsz5 : W1.heap.size ≤ w5.heap.size := hb5.size
              clear hdepsT hb5 hs6r hkT hbT hcyr hs11r hown9
              go_wp2
              go_loopw [12, 54] (fun v12 i wr => GRel k D E pb depsT groups w w5 v12 i wr) (fun _ i _ => groups.length - (intOf i).toNat)
              case atStart => exact ⟨0, depsT, pb, a6, cap6, Nat.zero_le _, rfl, rfl, fun h => absurd h (by simp), hpbl, hdeps5, rfl, hcap6, hs65, Kept.refl _ _, hbw5⟩
              case round =>
                clear hdeps5 hbw5 hs65
                rename World => W2
                obtain ⟨z, depsG, gb, a12, cap12, hz, rfl, hfoldG, hgb0, hgbl, hdepsG, rfl, hcap12, hs12, hkG, hbG⟩ := hrel
                by_cases hltz : z < groups.length
                · have hzg : groups[z]? = some (groups[z]) := by simp [hltz]
                  have HFG : Hid (((groups.take (z + 1)).foldl stepG (depsT, pb)) = (setAll depsG gb groups[z], groups[z])) := by
                    show _ = _
                    rw [fold_take _ _ _ _ _ hzg, hfoldG]; rfl
                  obtain ⟨hgrne, hgrmem, hgrlen⟩ := hgmem groups[z] (List.getElem_mem _)
                  obtain ⟨a14, cap14, hx14, hc14, hs14⟩ := hrG.2 z _ hzg
                  have hkGX : Kept ([D] ++ E) w5 W2 := hkG.more E
                  obtain ⟨bG, oG, rfl, _, hczr⟩ := (hsG.kept hkGX) z _ hx14
                  have hs14r := hs14.kept hkGX
                  have hXlt2 : ∀ x ∈ [D] ++ E, x < W2.heap.size := fun x hx => by have := hXlt x hx; have := hkG.size; omega
                  generalize groups[z] = group at *
                  have hgl : group.length ≤ 1024 := by omega
                  have hzi : (z : Int) < (groups.length : Int) := by omega
                  clear hfoldG hkGX
                  go_wp2
                  go_loopw [60] (fun i wr => IRel k D E gb depsG group w W2 i wr) (fun i _ => group.length - (intOf i).toNat)
                  case atStart => exact ⟨0, Nat.zero_le _, rfl, by simpa [setAll] using hdepsG, Kept.refl _ _, hbG⟩
                  case round =>
                    clear hdepsG
                    rename World => W3
                    obtain ⟨q, hq, rfl, hdepsI, hkI, hbI⟩ := hrel
                    by_cases hltq : q < group.length
                    · have hqg : group[q]? = some (group[q]) := by simp [hltq]
                      obtain ⟨b14, o14, rfl, _, hcq⟩ := (hs14r.kept (hkI.more E)) q _ (ints_get hqg)
                      have hik : group[q] < k := by simpa using hphmem _ (htrmem _ (hgrmem _ (List.getElem_mem _)))
                      have hset : setAll depsG gb (group.take (q + 1)) = (setAll depsG gb (group.take q)).set group[q] gb := by
                        unfold setAll
                        rw [fold_take _ _ _ _ _ hqg]
                      have HSET : Hid _ := hset
                      have hXlt3 : ∀ x ∈ [D] ++ E, x < W3.heap.size := fun x hx => by have := hXlt2 x hx; have := hkI.size; omega
                      generalize group[q] = i at *
                      have R := clone_any ([D] ++ E) a12 cap12 gb W3 hgbl hXlt3 (hs12.kept (hkI.more E))
                      have HR : Hid _ := R
                      clear R hset
                      have hqi : (q : Int) < (group.length : Int) := by omega
                      have hii : (i : Int) < (k : Int) := by omega
                      go_wp2_with fail
                      refine (show Calls _ _ _ _ _ from HR.out).mono ?_
                      clear HR
                      rintro e w6 ⟨a', cap', rfl, hc', hs', hb6⟩
                      have hd6 := hdepsI.below hb6
                      have hfr := hd6.free i
                      obtain ⟨old, hck⟩ := hd6.there i hik
                      have hst := hd6.store (by simp) i hc' hs'
                      have hkk : Kept [D] W2 (w6.setCell ⟨D, i, none⟩ (.slice a' gb.length cap')) := (hkI.trans (Kept.of_below hb6)).trans (Kept.setCell (by simp) _)
                      have hbb : Below w.heap.size w (w6.setCell ⟨D, i, none⟩ (.slice a' gb.length cap')) := (below_step hbI hb6).setCell (by simp; omega) _
                      clear hd6 hdepsI hb6 hs' hkI hbI
                      go_wp2
                      go_roundw
                      case rel => exact ⟨q + 1, by omega, by go_num, by rw [HSET.out]; exact hst, hkk, hbb⟩
                      case measure => simp [intOf]; omega
                    · have hql : q = group.length := by omega
                      subst hql
                      rw [List.take_length] at hdepsI
                      have hfin : GRel k D E pb depsT groups w w5 (.slice a14 group.length cap14) (.int .i64 ((z + 1 : Nat) : Int)) W3 :=
                        ⟨z + 1, setAll depsG gb group, group, a14, cap14, by omega, rfl, HFG.out, fun _ => ⟨hgrne, hgl⟩, by omega, hdepsI, rfl, hc14, hs14r.kept (hkI.more E), hkG.trans hkI, hbI⟩
                      have HFIN : Hid _ := hfin
                      clear hfin hdepsI hs14r hkI hbI
                      go_wp2
                      go_roundw
                      case rel => exact HFIN.out
                      case measure => simp [intOf]; omega
                · have hzl : z = groups.length := by omega
                  subst hzl
                  rw [List.take_length] at hfoldG
                  obtain ⟨hgbne, hgb1⟩ := hgb0 hgne
                  obtain ⟨b12, o12, rfl, _, _⟩ := hs12 0 (.int .i64 ((gb[0]'(List.length_pos_iff.2 hgbne) : Nat) : Int)) (ints_get (by simp))
                  have hown9G := owns_kept hown95 hkG (fun g hg => by have := (hown95.lt g hg).1; simp; omega)
                  have hDE : D ∉ E := fun h => by have := (hE D h).1; omega
                  go_wp2_with (at_builtin; refine wpList_append_own_at _ rfl _ _ 35 rfl w4.heap.size 3 t3 (.int .i64 0) 1 8 Tryd.underlying35 hi3 hz30 hz31 hz32 rfl (by decide) _ _ _ rfl hown9G ⟨b12, o12, none⟩ gb.length cap12 (ints gb) rfl (by simp [ints]) ?c1 ?c2 ?c3 ?c4 ?c5 ?_)
                  case c1 =>
                    intro j u hu
                    obtain ⟨b', o', e', _, hc'⟩ := hs12 j u hu
                    cases e'
                    rw [addr_add]; exact hc'
                  case c2 => exact ints_one gb
                  case c3 => unfold maxLen; omega
                  case c4 => omega
                  case c5 => have := hk5.size; have := hkG.size; omega
                  · intro v' w6 hown' hgrow _ hat
                    have hkE : Kept E W2 w6 := by
                      cases hv : u9.ownBlock with
                      | none => rw [hv] at hgrow; exact Kept.of_grown_none hgrow
                      | some e => rw [hv] at hgrow; exact Kept.of_grown hgrow (hE9 e hv)
                    have hkept : Kept [D] w4 w6 := (hk5.trans hkG).skip hkE hEge
                    have hbel : Below w.heap.size w w6 := hbG.grown hgrow hbG.size (fun g hg => by have := (hown95.lt g hg).1; omega)
                    have hsz6 : W2.heap.size ≤ w6.heap.size := hkE.size
                    have hlen : (ends ++ gb).length = ends.length + gb.length := by simp
                    have hown'' : w6.ownsRow w4.heap.size 3 1 v' (ends ++ gb).length (ints (ends ++ gb)) := by rw [hlen, ints_append]; exact hown'
                    have hfold' : (tracks.take (y + 1)).foldl (stepT GK pb) (deps, []) = (depsG, ends ++ gb) := by rw [HFT.out, hfoldG]
                    have hEz : ∀ e ∈ E, w4.heap.size ≤ e ∧ e < w6.heap.size := fun e he => ⟨(hE e he).1, by have := (hE e he).2; have := hkG.size; omega⟩
                    have hfin : TRel GK k D pb deps tracks w w4 v' (.int .i64 ((y + 1 : Nat) : Int)) w6 := by
                      rcases hat with same | fresh
                      · refine ⟨y + 1, depsG, ends ++ gb, E, by omega, rfl, hfold', by omega, hEz, ?_, hown'', fun e he => hE9 e (by rw [← same]; exact he), hkept, hbel⟩
                        have := hdepsG.over (E := []) hkE (fun y hy => by simp [hy]) hDE (by simp)
                        simpa using this
                      · have hlt6 : W2.heap.size < w6.heap.size := (hown'.lt _ fresh).2
                        refine ⟨y + 1, depsG, ends ++ gb, E ++ [W2.heap.size], by omega, rfl, hfold', by omega, ?_, ?_, hown'', fun e he => ?_, hkept, hbel⟩
                        · intro e he
                          simp only [List.mem_append, List.mem_singleton] at he
                          rcases he with he | rfl
                          · exact hEz e he
                          · exact ⟨by have := hk5.size; have := hkG.size; omega, hlt6⟩
                        · have := hdepsG.over (E := [W2.heap.size]) hkE (fun y hy => by simp [hy]) hDE (by simp)
                          rwa [List.append_assoc] at this
                        · rw [fresh] at he
                          cases he
                          simp
                    have HFIN : Hid _ := hfin
                    clear hfin hown' hown'' hgrow hat hkE hkept hbel hfold' hEz hdepsG hs12 hown9G
                    go_wp2
                    go_roundw
                    case rel => exact HFIN.out
                    case measure => simp [intOf]; omega
            · have hyl : y = tracks.length := by omega
              subst hyl
              rw [List.take_length] at hfoldT
              obtain ⟨a9, cap9, rfl, hc9, hs9⟩ := Sees.of_owns (X := [D]) hown9 (fun g hg => by have := (hown9.lt g hg).1; simp; omega)
              have hfin : PRel TK GK k D phases w w3 (.slice a9 ends.length cap9) (.int .i64 ((x + 1 : Nat) : Int)) W1 :=
                ⟨x + 1, depsT, ends, a9, cap9, by omega, rfl, by rw [HFP.out, hfoldT], by omega, hdepsT.fewer (by simp), rfl, hc9, hs9, hk4.trans hkT, hbT⟩
              have HFIN : Hid _ := hfin
              clear hfin hfoldT hs9 hdepsT hown9 HFP
              go_wp2
              go_roundw
              case rel => exact HFIN.out
              case measure => simp [intOf]; omega
        · have hxl : x = phases.length := by omega
          subst hxl
          rw [List.take_length] at hfold
          obtain ⟨xs, h1, h2⟩ := hdeps
          obtain ⟨aR, capR, eR, hcR, hsR⟩ := Sees.of_owns (X := []) h1 (fun g hg => by simp)
          simp only [Value.slice.injEq, true_and] at eR
          obtain ⟨rfl, rfl⟩ := eR
          have hlen : deps.length = k := by rw [← h2.1, h1.1, Nat.mul_one]
          have hfin : CutRes [] w (byNum PK TK GK k) (.returned (.slice (some ⟨D, 0, none⟩) k k)) W0 := by
            rw [HGOAL.out, hfold]
            exact ⟨_, k, xs, by rw [hlen], hsR, h2.fewer (by simp), hbP⟩
          have HFIN : Hid _ := hfin
          clear hfin hfold h1 h2 hsR hcR
          go_wp2
          go_ret
          exact HFIN.out
end Go.Proofs.Qxb6600314aDoor
