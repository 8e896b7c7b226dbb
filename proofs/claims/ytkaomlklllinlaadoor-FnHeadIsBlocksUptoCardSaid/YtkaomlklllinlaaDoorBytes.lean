/- The tokens of ScanBytes are the bytes of the text: the walk. Conditions: the errors are as start-up lays them; the pieces lie in old memory; the text has fewer than 2 to the 40th bytes. -/
import Derived.Test.YtkaomlklllinlaaDoorSingles
import Derived.Test.YtkaomlklllinlaaDoorStep
import Derived.Test.YtkaomlklllinlaaDoorAll
set_option maxRecDepth 100000
set_option maxHeartbeats 4000000
namespace Go.HE
open Go.RowKit Go.Proofs

def bstep : Unit → List UInt8 → Bool → Ans Unit := fun _ d _ => if d = [] then ⟨0, none, none, ()⟩ else ⟨1, some (d.take 1), none, ()⟩
def bq : Unit → List UInt8 → Oc Unit → Prop
  | _, [], o => o = .stop
  | _, b :: r, o => o = .tok [b] () r

theorem bgood {L : Nat} (h : 0 < L) : Good bstep bq L := by
  refine ⟨h, fun s data tl o eof hq he hd _ => ?_⟩
  cases data with
  | nil =>
    have hd' : eof = true := by simpa using hd
    have := he hd'
    subst this hd'
    have ho : o = .stop := hq
    subst ho
    simp [bstep]
  | cons b d =>
    have ho : o = .tok [b] () (d ++ tl) := hq
    subst ho
    simp [bstep]
    omega

theorem brun (text : List UInt8) : Run bq () text (singles text) none := by
  induction text with
  | nil => exact .stop rfl
  | cons b r ih => exact .tok (rfl : bq () (b :: r) (.tok [b] () r)) ih

section
variable {W : World} {E : Nat → Addr}
theorem bytes_ok : SplitOk W E 60 [] bstep (fun _ _ => True) := by
  refine ⟨by kernel_rfl, fun _ _ _ _ _ => trivial, fun _ _ _ _ => trivial, fun s d e c h => ?_, fun s T bb off dcap cells data atEOF _ hne hdat hle hcap _ => ?_⟩
  · unfold bstep at h; split at h <;> cases h
  · refine (scanBytes_ct bb off data.length dcap atEOF ((bb, ⟨cells, 5, (0, 0)⟩) :: T) ?_ hcap).mono ?_
    · rcases hne with h | h
      · left; intro h0; exact h (List.length_eq_zero_iff.1 h0)
      · exact .inr h
    rintro v K ⟨rfl, rfl⟩
    cases data with
    | nil => exact ⟨.slice none 0 0, T, rfl, rfl, trivial, fun _ _ h _ => h, rfl⟩
    | cons b d =>
      refine ⟨.slice (some ⟨bb, off, none⟩) 1 dcap, T, rfl, rfl, trivial, fun _ _ h _ => h, bb, off, dcap, _, rfl, m0, ?_, rfl, by simp at hcap ⊢; omega⟩
      show (cells.drop off).take 1 = bcells [b]
      have := congrArg (List.take 1) hdat
      rw [List.take_take] at this
      simpa [bcells] using this

theorem bytes_ct (hE : Errs W E) (ps : List Int) (text : List UInt8) (pv : Value) (tog : Bool) (c most : Int) (hpv : Pcs W pv ps) (htl : text.length ≤ 1099511627776) (hpl : ps.length ≤ 4611686018427387904) (hmost : most ≤ 9223372036854775807) (hlim : 0 < limitOf c most) :
    Ct Tryd.prog W 29 #[.agg #[str text, pv, .bool tog, .bool false], .agg #[.int .i64 c, .int .i64 most]] [] (fun v H' => ∃ u, v = .tuple #[u, .int .i64 0] ∧ StrsAt H' u (singles text)) := by
  obtain ⟨n, x, htk, hx0⟩ := all_toks (bgood (L := (limitOf c most).toNat) (by omega)) ps (brun text) pv tog c most htl (by simp)
  refine ct_of_cw (vs := [_, _]) Tryd.func29 rfl rfl fun w1 => ?_
  refine cw_seq ?_; refine cw_region ?_
  refine ol_box rfl rfl fun b2 => ?_
  refine ol_box rfl rfl fun b3 => ?_
  refine ol_ev (ev_assign rfl) rfl ?_; refine ol_ev (ev_assign rfl) rfl ?_; refine ol_nil ?_; refine cw_seq ?_; refine cw_region ?_
  refine ol_ev (ev_loadS (cs := [str text, pv, .bool tog, .bool false]) rfl rfl m1 rfl) rfl ?_
  refine ol_ev (ev_loadS (cs := [.int .i64 c, .int .i64 most]) rfl rfl m0 rfl) rfl ?_
  refine ol_call3 (G := []) (cap := []) rfl rfl rfl rfl rfl (scanner_ct (E := E) bytes_ok ps () [] text pv tog false c most trivial hpv (by omega) hpl hmost) (List.Perm.refl _) ?_
  rintro v G' ⟨sb, rb, rfl, hready⟩
  refine ol_call1 (G := G') (cap := []) rfl rfl rfl (tokens_ct hE bytes_ok ps n _ false (singles text) x sb rb G' htk hready (by simp [singles]; omega)) (List.Perm.refl _) ?_
  rintro v G'' ⟨b, sp, rfl, hmem⟩
  rw [hx0]
  refine ol_ev (ev_extract rfl rfl) rfl ?_; refine ol_ev (ev_extract rfl rfl) rfl ?_; refine ol_ev (ev_assign rfl) rfl ?_; refine ol_ev (ev_assign rfl) rfl ?_; refine ol_nil ?_; refine cw_ret ?_
  exact ⟨_, res2 rfl rfl rfl, _, rfl, b, _, sp, rfl, List.mem_append_left _ hmem, Nat.le_add_right _ _⟩

end
end Go.HE
