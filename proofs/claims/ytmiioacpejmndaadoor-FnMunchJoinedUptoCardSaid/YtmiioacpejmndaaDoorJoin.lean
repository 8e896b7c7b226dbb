/- Tokens joined, by a contract. Conditions: the list has fewer than 2 to the 62nd entries, and what is joined has as few bytes. -/
import Derived.Test.YtmiioacpejmndaaDoorHelp
set_option maxRecDepth 100000
set_option maxHeartbeats 4000000
namespace Go.HE
open Go.RowKit Go.Proofs

/-- Tokens with a separator between. -/
def joinL (sep : List UInt8) : List (List UInt8) → List UInt8
  | [] => []
  | t :: r => t ++ (r.map (sep ++ ·)).flatten
theorem joinL_snoc (sep : List UInt8) (a : List (List UInt8)) (t : List UInt8) (h : a ≠ []) : joinL sep (a ++ [t]) = (joinL sep a ++ sep) ++ t := by
  cases a with
  | nil => exact absurd rfl h
  | cons x r => simp [joinL]
theorem joinL_empty (ts : List (List UInt8)) : joinL [] ts = ts.flatten := by
  cases ts with
  | nil => rfl
  | cons t r => simp [joinL]
theorem joinL_take (sep : List UInt8) (ts : List (List UInt8)) (i : Nat) : (joinL sep (ts.take i)).length ≤ (joinL sep ts).length := by
  cases ts with
  | nil => simp
  | cons t r =>
    cases i with
    | zero => simp [joinL]
    | succ i =>
      have e : (r.map (sep ++ ·)).flatten = ((r.take i).map (sep ++ ·)).flatten ++ ((r.drop i).map (sep ++ ·)).flatten := by rw [← List.flatten_append, ← List.map_append, List.take_append_drop]
      have h2 : ((r.take i).map (sep ++ ·)).flatten.length ≤ (r.map (sep ++ ·)).flatten.length := by rw [e, List.length_append]; omega
      simp only [List.take_succ_cons, joinL, List.length_append]
      omega

section
variable {W : World}
theorem joined_ct' (H : Heap) (u : Value) (ts : List (List UInt8)) (sep : List UInt8) (hu : Strs W H u ts) (hl : ts.length ≤ 4611686018427387904) (hj : (joinL sep ts).length ≤ 4611686018427387904) :
    Ct Tryd.prog W 21 #[u, str sep] H (fun r H' => r = str (joinL sep ts) ∧ H' = H) := by
  obtain ⟨a1, c1, rfl, _, hu⟩ := hu
  refine ct_of_cw (vs := [_, _]) Tryd.func21 rfl rfl fun w1 => ?_
  refine cw_seq ?_; refine cw_region ?_; refine ol_ev (ev_assign rfl) rfl ?_; refine ol_nil ?_; refine cw_seq ?_; refine cw_region ?_; refine ol_ev (ev_assign rfl) rfl ?_; refine ol_nil ?_; refine cw_seq ?_; refine cw_seq ?_; refine cw_region ?_; refine ol_ev (ev_assign rfl) rfl ?_; refine ol_nil ?_; refine cw_block ?_
  refine cw_loop (σ := Nat) (fun i => [(0, .slice a1 ts.length c1), (1, str sep), (5, str (joinL sep (ts.take i))), (6, .int .i64 (i : Int))]) (fun _ => H)
    (fun i => i ≤ ts.length) (fun i => ts.length - i) 0 (Nat.zero_le _) (fun a ha => ha.weak ⟨rfl, rfl, rfl, rfl, trivial⟩) rfl ?_
  intro i hi
  refine cw_seq ?_; refine cw_seq ?_; refine cw_region ?_; refine ol_ev (ev_move rfl) rfl ?_; refine ol_ev (ev_move rfl) rfl ?_; refine ol_ev (ev_len_s rfl) rfl ?_; refine ol_ev (ev_lt rfl rfl) rfl ?_; refine ol_nil ?_
  refine cw_ifd rfl (fun h2 => ?_) (fun h2 => ?_)
  · have hx : i < ts.length := by omega
    obtain ⟨b1, o1, e0, k1⟩ := hu i _ (List.getElem?_eq_getElem hx)
    subst e0
    have ht := joinL_take sep ts (i + 1)
    have e1 : ts.take (i + 1) = ts.take i ++ [ts[i]] := by rw [List.take_add_one, List.getElem?_eq_getElem hx]; rfl
    refine cw_skip ?_; refine cw_seq ?_; refine cw_block ?_; refine cw_seq ?_; refine cw_seq ?_; refine cw_region ?_; refine ol_ev (ev_move rfl) rfl ?_; refine ol_ev (ev_gt rfl rfl) rfl ?_; refine ol_nil ?_
    refine cw_ifd rfl (fun h3 => ?_) (fun h3 => ?_)
    · have e2 : joinL sep (ts.take (i + 1)) = (joinL sep (ts.take i) ++ sep) ++ ts[i] := by
        rw [e1, joinL_snoc]
        intro h0
        have := congrArg List.length h0
        rw [List.length_take, Nat.min_eq_left (by omega), List.length_nil] at this
        omega
      have e3 : (joinL sep (ts.take i)).length + sep.length + ts[i].length ≤ 4611686018427387904 := by
        have := congrArg List.length e2
        simp only [List.length_append] at this
        omega
      refine cw_region ?_; refine ol_ev (ev_move rfl) rfl ?_; refine ol_ev (ev_move rfl) rfl ?_
      refine ol_ev (ev_concat rfl rfl (by omega)) rfl ?_
      refine ol_ev (ev_assign rfl) rfl ?_; refine ol_nil ?_; refine cw_region ?_; (iterate 3 (refine ol_ev (ev_move rfl) rfl ?_))
      refine ol_ev (ev_idx1 rfl rfl (by omega) (by omega)) rfl ?_
      refine ol_ev (ev_loadR rfl k1) rfl ?_
      refine ol_ev (ev_concat rfl rfl (by simp only [List.length_append]; omega)) rfl ?_
      refine ol_ev (ev_assign rfl) rfl ?_; refine ol_nil ?_; refine cw_region ?_; refine ol_ev (ev_move rfl) rfl ?_; (refine ol_ev (ev_add rfl rfl ?_) rfl ?_; (constructor <;> omega)); refine ol_ev (ev_assign rfl) rfl ?_; refine ol_nil ?_
      refine ⟨i + 1, by omega, ⟨rfl, rfl, ?_, rfl, trivial⟩, rfl, by omega⟩
      rw [e2]; rfl
    · have h0 : i = 0 := by omega
      subst h0
      have e2 : joinL sep (ts.take (0 + 1)) = joinL sep (ts.take 0) ++ ts[0] := by
        rw [e1]; simp [joinL]
      have e3 : (joinL sep (ts.take 0)).length + ts[0].length ≤ 4611686018427387904 := by
        have := congrArg List.length e2
        simp only [List.length_append] at this
        omega
      refine cw_skip ?_; refine cw_region ?_; (iterate 3 (refine ol_ev (ev_move rfl) rfl ?_))
      refine ol_ev (ev_idx1 rfl rfl (by omega) (by omega)) rfl ?_
      refine ol_ev (ev_loadR rfl k1) rfl ?_
      refine ol_ev (ev_concat rfl rfl (by omega)) rfl ?_
      refine ol_ev (ev_assign rfl) rfl ?_; refine ol_nil ?_; refine cw_region ?_; refine ol_ev (ev_move rfl) rfl ?_; (refine ol_ev (ev_add rfl rfl ?_) rfl ?_; (constructor <;> omega)); refine ol_ev (ev_assign rfl) rfl ?_; refine ol_nil ?_
      refine ⟨0 + 1, by omega, ⟨rfl, rfl, ?_, rfl, trivial⟩, rfl, by omega⟩
      rw [e2]; rfl
  · have hend : i = ts.length := by omega
    subst hend
    rw [List.take_length]
    refine cw_exit ?_; refine cw_seq ?_; refine cw_region ?_; refine ol_ev (ev_move rfl) rfl ?_; refine ol_ev (ev_assign rfl) rfl ?_; refine ol_nil ?_; refine cw_ret ?_
    exact ⟨_, res1 rfl rfl, rfl, rfl⟩
theorem joined_ct (H : Heap) (u : Value) (ts : List (List UInt8)) (sep : List UInt8) (hu : StrsAt H u ts) (hl : ts.length ≤ 4611686018427387904) (hj : (joinL sep ts).length ≤ 4611686018427387904) :
    Ct Tryd.prog W 21 #[u, str sep] H (fun r H' => r = str (joinL sep ts) ∧ H' = H) := joined_ct' H u ts sep hu.strs hl hj
end
end Go.HE
