/- The errors and the tables of UTF-8 as start-up lays them, out of a row's list; a world in which they are so, a witness for the rows. Condition: the row's own. -/
import Derived.Test.YtkaomlklllinlaaDoorErrs
import Derived.Lib.LaidU8T
set_option maxRecDepth 100000
set_option maxHeartbeats 1000000
namespace Go.HE
open Go Go.RowKit Go.ChangeShapes Go.Proofs Go.Proofs.YtkaomlklllinlaaDoor Go.Shelf Go.Lib

def laidU : List (String × DataW Unit) := ("unicode/utf8.acceptRanges", acceptData) :: ((nine.map fun x => (x.1, sent x.2)) ++ [("unicode/utf8.first", Go.Pinned.utf8First)])

theorem laidVars_left {P : Program} {W : World} : ∀ (l r : List (String × DataW Unit)) (ps : List MemPlace), DataW.LaidVars P W (l ++ r) ps → ∃ q, DataW.LaidVars P W l q ∧ q.Sublist ps
  | [], _, ps, _ => ⟨[], rfl, List.nil_sublist _⟩
  | (n, d) :: l, r, ps, h => by
    obtain ⟨g, t, cs, fuel, p, q, h1, h2, h3, h4, h5, rfl⟩ := h
    obtain ⟨q', h6, h7⟩ := laidVars_left l r q h5
    exact ⟨_, ⟨g, t, cs, fuel, p, q', h1, h2, h3, h4, h6, rfl⟩, List.Sublist.append (List.Sublist.refl _) h7⟩

def u8_ren : Ren where
  f := fun n => n
  t := fun
    | 5 => 5
    | 119 => 134
    | 138 => 136
    | 139 => 137
    | n => n
  g := fun
    | 3 => 10
    | 4 => 11
    | n => n
theorem u8_types : U8Types Tryd.prog u8_ren := ⟨Tryd.underlying5, Tryd.underlying134, Tryd.underlying136, Tryd.underlying137⟩
theorem u8_extra : U8Extra Tryd.prog u8_ren := ⟨by kernel_rfl, by kernel_rfl, by kernel_rfl, by kernel_rfl, by kernel_rfl, by kernel_rfl, by kernel_rfl⟩
theorem first_same : Go.Pinned.utf8First = firstData := by kernel_rfl

theorem errsU_of {W : World} (h : laidMet Tryd.prog laidU W) : ∃ E, Errs W E ∧ Utf8Tabs 10 11 W := by
  obtain ⟨ps, hv, hnd, hrows⟩ := h
  have hr := LaidVars_reads hv
  obtain ⟨g, t, cs, fuel, p, q, _, _, _, _, hq, hps⟩ := hv
  obtain ⟨q', h6, h7⟩ := laidVars_left _ _ _ hq
  have hsub : q'.Sublist ps := by rw [hps]; exact h7.trans (List.sublist_append_right _ _)
  obtain ⟨E, hE⟩ := errs_of (W := W) ⟨q', h6, hsub.nodup hnd, fun b off hm => hrows b off (hsub.subset hm)⟩
  refine ⟨E, hE, utf8Tabs_of_readsT u8_types u8_extra ?_ ?_⟩
  · rw [← first_same]
    exact hr _ _ (by simp [laidU])
  · exact hr _ _ (by simp [laidU])

noncomputable def laidWorldU (os : Os) : World :=
  let w0 := laidWorld os
  let fill (h : Array Obj) (g : Nat) (l : List Nat) : Array Obj := h.modify g fun
    | .cells _ t frozen => .cells (l.map fun (n : Nat) => Value.int .u8 (Int.ofNat n)).toArray t frozen
    | o => o
  let h0 := fill w0.heap 10 Go.Pinned.utf8FirstZ
  let h1 := fill h0 11 [128, 191, 160, 191, 128, 159, 144, 191, 128, 143, 0, 0, 0, 0, 0, 0, 0, 0, 0, 0, 0, 0, 0, 0, 0, 0, 0, 0, 0, 0, 0, 0]
  { w0 with heap := h1 }
theorem metU (os : Os) (args : Array Value) : laidMet Tryd.prog Rows.fnTakeTakeUptoRow.laid ((laidWorldU os).forCall (fun _ _ => 0) ⟨#[], args, []⟩).memory :=
  laidMet_of_run' 8 (by kernel_rfl) (by kernel_rfl)
theorem laid_sameU : Rows.fnTakeTakeUptoRow.laid = laidU := by kernel_rfl
end Go.HE
