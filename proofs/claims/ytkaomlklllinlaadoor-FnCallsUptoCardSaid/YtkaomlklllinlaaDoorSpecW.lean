/- The reference's lines and words, by contracts. Condition: the text has at most 2 to the 40th bytes; for words: bytes below 128. -/
import Derived.Test.YtkaomlklllinlaaDoorWordsP
import Derived.Test.YtkaomlklllinlaaDoorAll
/- Words and lines byte by byte: plain mathematics. No condition. -/
set_option maxRecDepth 100000
set_option maxHeartbeats 1000000
namespace Go.HE

theorem Run.of_eq {σ : Type} {Q : σ → List UInt8 → Oc σ → Prop} {s : σ} {r r' : List UInt8} (h : ∀ o, Q s r o → Q s r' o) {ts : List (List UInt8)} {err : Option Nat} (hr : Run Q s r ts err) : Run Q s r' ts err := by
  cases hr with
  | tok h1 h2 => exact .tok (h _ h1) h2
  | fail h1 => exact .fail (h _ h1)
  | fin h1 => exact .fin (h _ h1)
  | fin0 h1 => exact .fin0 (h _ h1)
  | stop h1 => exact .stop (h _ h1)

/-- A space below 128. -/
def sp8 (c : UInt8) : Bool := decide (c.toNat = 32 ∨ (9 ≤ c.toNat ∧ c.toNat ≤ 13))
theorem dec_ascii {c : UInt8} (h : c.toNat < 128) (r : List UInt8) : dec (c :: r) = (c.toNat, 1) := decodeN_ascii h
theorem skip_cons {c : UInt8} (h : c.toNat < 128) (r : List UInt8) : skipS (c :: r) = if sp8 c = true then 1 + skipS r else 0 := by
  have hd := dec_ascii h r
  have hs : isSp ((dec (c :: r)).1 : Int) = sp8 c := by rw [hd]; exact isSp_ascii h
  cases hc : sp8 c with
  | true => rw [if_pos rfl, skipS_sp (by simp) (by rw [hs]; exact hc), hd]; rfl
  | false => rw [if_neg (by simp), skipS_no (by simp) (by rw [hs]; exact hc)]
theorem find_cons {c : UInt8} (h : c.toNat < 128) (r : List UInt8) : findS (c :: r) = if sp8 c = true then some (0, 1) else (findS r).map fun p => (1 + p.1, p.2) := by
  have hd := dec_ascii h r
  have hs : isSp ((dec (c :: r)).1 : Int) = sp8 c := by rw [hd]; exact isSp_ascii h
  cases hc : sp8 c with
  | true => rw [if_pos rfl, findS_sp (by simp) (by rw [hs]; exact hc), hd]
  | false => rw [if_neg (by simp), findS_no (by simp) (by rw [hs]; exact hc), hd]; rfl
def Ascii (r : List UInt8) : Prop := ∀ c ∈ r, c.toNat < 128
/-- The first word: what stands ahead of the first space, and what follows. -/
theorem find_split : ∀ r : List UInt8, Ascii r → findS r = match r.dropWhile (fun c => !sp8 c) with | [] => none | _ :: _ => some ((r.takeWhile (fun c => !sp8 c)).length, 1)
  | [], _ => by rw [findS_nil]; rfl
  | c :: r, h => by
    rw [find_cons (h c List.mem_cons_self)]
    have ih := find_split r fun x hx => h x (List.mem_cons_of_mem _ hx)
    cases hc : sp8 c with
    | true => simp [hc]
    | false =>
      rw [if_neg (by simp), ih]
      simp only [List.dropWhile_cons, List.takeWhile_cons, hc, Bool.not_false, if_true]
      cases r.dropWhile (fun c => !sp8 c) with
      | nil => rfl
      | cons a b => simp; omega
theorem wout_space {c : UInt8} (h : c.toNat < 128) (hc : sp8 c = true) (r : List UInt8) : wout (c :: r) = wout r := by
  have := wout_skip [c] r
  rw [skip_cons h, if_pos hc, skipS_nil] at this
  exact this
theorem wout_word {c : UInt8} {r : List UInt8} (h : Ascii (c :: r)) (hc : sp8 c = false) : wout (c :: r) = .tok (c :: r.takeWhile (fun c => !sp8 c)) () ((r.dropWhile (fun c => !sp8 c)).drop 1) := by
  have hs : skipS (c :: r) = 0 := by rw [skip_cons (h c List.mem_cons_self), if_neg (by rw [hc]; simp)]
  have hf := find_split r fun x hx => h x (List.mem_cons_of_mem _ hx)
  have hr := List.takeWhile_append_dropWhile (p := fun c => !sp8 c) (l := r)
  unfold wout
  rw [hs, List.drop_zero, find_cons (h c List.mem_cons_self), if_neg (by rw [hc]; simp), hf]
  generalize hp : r.takeWhile (fun c => !sp8 c) = p at hr
  generalize hd : r.dropWhile (fun c => !sp8 c) = d at hr
  cases d with
  | nil =>
    simp only [Option.map_none]
    rw [if_pos (by simp)]
    rw [List.append_nil] at hr
    rw [hr]; rfl
  | cons a d =>
    simp only [Option.map_some]
    have e1 : (c :: r).take (1 + p.length) = c :: p := by rw [← hr, Nat.add_comm]; simp
    have e2 : (c :: r).drop (0 + (1 + p.length) + 1) = d := by rw [← hr, show 0 + (1 + p.length) + 1 = p.length + 2 by omega]; simp
    rw [e1, e2]; rfl

/-- How the words that have been told so far, and what is left, make all words. -/
def WS (inside : Bool) (ds : List (List UInt8)) (r : List UInt8) (ts : List (List UInt8)) : Prop :=
  if inside = true then ∃ ds' w ls, ds = ds' ++ [w] ∧ Run wq () (r.dropWhile (fun c => !sp8 c)) ls none ∧ ts = ds' ++ (w ++ r.takeWhile (fun c => !sp8 c)) :: ls
  else ∃ ls, Run wq () r ls none ∧ ts = ds ++ ls
theorem WS.space {inside : Bool} {ds : List (List UInt8)} {c : UInt8} {r : List UInt8} {ts : List (List UInt8)} (h : WS inside ds (c :: r) ts) (h8 : c.toNat < 128) (hc : sp8 c = true) : WS false ds r ts := by
  have hstep : ∀ {ls}, Run wq () (c :: r) ls none → Run wq () r ls none := fun hr => Run.of_eq (fun o ho => by show o = wout r; rw [← wout_space h8 hc]; exact ho) hr
  cases inside with
  | true =>
    obtain ⟨ds', w, ls, rfl, h1, rfl⟩ := h
    simp only [List.dropWhile_cons, hc, Bool.not_true, Bool.false_eq_true, if_false] at h1
    exact ⟨ls, hstep h1, by simp [hc]⟩
  | false =>
    obtain ⟨ls, h1, rfl⟩ := h
    exact ⟨ls, hstep h1, rfl⟩
theorem WS.new {ds : List (List UInt8)} {c : UInt8} {r : List UInt8} {ts : List (List UInt8)} (h : WS false ds (c :: r) ts) (h8 : Ascii (c :: r)) (hc : sp8 c = false) : WS true (ds ++ [[] ++ [c]]) r ts := by
  obtain ⟨ls, h1, rfl⟩ := h
  have hw := wout_word h8 hc
  have hall : ∀ x ∈ r, x.toNat < 128 := fun x hx => h8 x (List.mem_cons_of_mem _ hx)
  cases h1 with
  | @tok _ _ t s' r' ts' _ h1 h2 =>
    have h3 : Oc.tok t s' r' = wout (c :: r) := h1
    rw [hw] at h3
    cases h3
    refine ⟨ds, [] ++ [c], _, rfl, ?_, rfl⟩
    cases hd : r.dropWhile (fun c => !sp8 c) with
    | nil => rw [hd] at h2; exact h2
    | cons a d =>
      rw [hd] at h2
      have ha : sp8 a = true := by
        have := List.head?_dropWhile_not (p := fun c => !sp8 c) (l := r)
        rw [hd] at this
        simpa using this
      have ha8 : a.toNat < 128 := hall a (by
        have : a ∈ r.dropWhile (fun c => !sp8 c) := by rw [hd]; exact List.mem_cons_self
        exact (List.dropWhile_sublist _).subset this)
      exact Run.of_eq (fun o ho => by show o = wout (a :: d); rw [wout_space ha8 ha]; exact ho) h2
  | fin h1 => have h3 : _ = wout (c :: r) := h1; rw [hw] at h3; cases h3
  | fin0 h1 => have h3 : _ = wout (c :: r) := h1; rw [hw] at h3; cases h3
  | stop h1 => have h3 : _ = wout (c :: r) := h1; rw [hw] at h3; cases h3
theorem WS.on {ds : List (List UInt8)} {w : List UInt8} {c : UInt8} {r : List UInt8} {ts : List (List UInt8)} (h : WS true (ds ++ [w]) (c :: r) ts) (hc : sp8 c = false) : WS true (ds ++ [w ++ [c]]) r ts := by
  obtain ⟨ds', w', ls, h1, h2, rfl⟩ := h
  obtain ⟨rfl, h3⟩ := List.append_inj' h1 rfl
  cases h3
  simp only [List.dropWhile_cons, List.takeWhile_cons, hc, Bool.not_false, if_true] at h2 ⊢
  exact ⟨ds, w ++ [c], ls, rfl, h2, by simp⟩
theorem WS.last {inside : Bool} {ds ts : List (List UInt8)} (h : WS inside ds [] ts) : ts = ds := by
  have hend : ∀ {ls}, Run wq () [] ls none → ls = [] := fun hr => by
    have hw : wout [] = .stop := by
      unfold wout
      rw [List.drop_nil, findS_nil]
      simp
    cases hr with
    | tok h1 => have h3 : _ = wout [] := h1; rw [hw] at h3; cases h3
    | fin h1 => have h3 : _ = wout [] := h1; rw [hw] at h3; cases h3
    | fin0 h1 => rfl
    | stop h1 => rfl
  cases inside with
  | true =>
    obtain ⟨ds', w, ls, rfl, h1, rfl⟩ := h
    rw [hend h1]; simp
  | false =>
    obtain ⟨ls, h1, rfl⟩ := h
    rw [hend h1]; simp

/-! Lines. -/
theorem nl_here {text : List UInt8} {b i : Nat} (hb : b ≤ i) (hi : i < text.length) (hc : text[i] = 10) (hno : ∀ j, b ≤ j → j < i → text[j]? ≠ some 10) : nlAt (text.drop b) = some (i - b) := by
  unfold nlAt
  refine List.findIdx?_eq_some_iff_getElem.2 ⟨by rw [List.length_drop]; omega, ?_, fun j hj => ?_⟩
  · rw [List.getElem_drop]
    have e : b + (i - b) = i := by omega
    simp only [e, hc]; rfl
  · rw [List.getElem_drop]
    have := hno (b + j) (by omega) (by omega)
    rw [List.getElem?_eq_getElem (by omega)] at this
    simpa using this
theorem nl_not {text : List UInt8} {b : Nat} (hno : ∀ j, b ≤ j → j < text.length → text[j]? ≠ some 10) : nlAt (text.drop b) = none := by
  unfold nlAt
  rw [List.findIdx?_eq_none_iff]
  intro c hc
  obtain ⟨j, hj, rfl⟩ := List.getElem_of_mem hc
  rw [List.length_drop] at hj
  rw [List.getElem_drop]
  have := hno (b + j) (by omega) (by omega)
  rw [List.getElem?_eq_getElem (by omega)] at this
  simpa using this
theorem lrun_cons {r : List UInt8} {i : Nat} {ls : List (List UInt8)} (h : Run lq () r ls none) (hn : nlAt r = some i) : ∃ ls', ls = dropC (r.take i) :: ls' ∧ Run lq () (r.drop (i + 1)) ls' none := by
  have hl : lout r = .tok (dropC (r.take i)) () (r.drop (i + 1)) := by unfold lout; rw [hn]
  cases h with
  | @tok _ _ t s' r' ts' _ h1 h2 =>
    have h3 : Oc.tok t s' r' = lout r := h1
    rw [hl] at h3
    cases h3
    exact ⟨_, rfl, h2⟩
  | fin h1 => have h3 : _ = lout r := h1; rw [hl] at h3; cases h3
  | fin0 h1 => have h3 : _ = lout r := h1; rw [hl] at h3; cases h3
  | stop h1 => have h3 : _ = lout r := h1; rw [hl] at h3; cases h3
theorem lrun_nil {ls : List (List UInt8)} (h : Run lq () [] ls none) : ls = [] := by
  have hl : lout [] = .stop := rfl
  cases h with
  | tok h1 => have h3 : _ = lout [] := h1; rw [hl] at h3; cases h3
  | fin h1 => have h3 : _ = lout [] := h1; rw [hl] at h3; cases h3
  | fin0 h1 => rfl
  | stop h1 => rfl
theorem lrun_last {r : List UInt8} {ls : List (List UInt8)} (h : Run lq () r ls none) (hn : nlAt r = none) (h0 : r ≠ []) : ls = [dropC r] := by
  have hl : lout r = .tok (dropC r) () [] := by unfold lout; rw [hn]; simp only; rw [if_neg h0]
  cases h with
  | @tok _ _ t s' r' ts' _ h1 h2 =>
    have h3 : Oc.tok t s' r' = lout r := h1
    rw [hl] at h3
    cases h3
    rw [lrun_nil h2]
  | fin h1 => have h3 : _ = lout r := h1; rw [hl] at h3; cases h3
  | fin0 h1 => have h3 : _ = lout r := h1; rw [hl] at h3; cases h3
  | stop h1 => have h3 : _ = lout r := h1; rw [hl] at h3; cases h3
end Go.HE

set_option maxRecDepth 100000
set_option maxHeartbeats 4000000
namespace Go.HE
open Go.RowKit Go.Proofs

theorem dropC_sub {text : List UInt8} {b i : Nat} (hb : b < i) (hi : i ≤ text.length) : dropC ((text.drop b).take (i - b)) = if text[i - 1]? = some 13 then (text.drop b).take (i - 1 - b) else (text.drop b).take (i - b) := by
  have hl : ((text.drop b).take (i - b)).length = i - b := by rw [List.length_take, List.length_drop]; omega
  have hlast : ((text.drop b).take (i - b)).getLast? = text[i - 1]? := by
    rw [List.getLast?_eq_getElem?, hl, List.getElem?_take_of_lt (by omega), List.getElem?_drop]
    congr 1; omega
  unfold dropC
  rw [hlast]
  split
  · rw [List.dropLast_eq_take, hl, List.take_take]
    congr 1; omega
  · rfl
theorem dropC_nil : dropC [] = [] := rfl

section
variable {W : World} {E : Nat → Addr}
theorem specLines_ct (text : List UInt8) (ts : List (List UInt8)) (hr : Run lq () text ts none) (htn : ts.length ≤ text.length) (hl : text.length ≤ 1099511627776) :
    Ct Tryd.prog W 30 #[str text] [] (fun v H' => ∃ u, v = .agg #[u, .int .i64 0] ∧ StrsAt H' u ts) := by
  refine ct_of_cw (vs := [_]) Tryd.func30 rfl rfl fun w1 => ?_
  refine cw_seq ?_; refine cw_region ?_
  refine ol_alloc rfl fun r0 => ?_
  refine ol_nil ?_; refine cw_seq ?_; refine cw_region ?_
  refine ol_slice0 rfl fun ob => ?_
  refine ol_ev (ev_build1 rfl rfl) rfl ?_
  refine ol_alloc rfl fun b3 => ?_
  refine ol_storeS (o := ⟨[.slice none 0 0, .int .i64 0], 41, (0, 0)⟩) (cs := [.slice (some ⟨ob, 0, none⟩) 0 0, .int .i64 0]) rfl rfl rfl (by simp [Value.oneCell']) u0 rfl rfl ?_
  refine ol_nil ?_; refine cw_seq ?_; refine cw_region ?_; refine ol_ev (ev_assign rfl) rfl ?_; refine ol_nil ?_; refine cw_seq ?_; refine cw_seq ?_; refine cw_region ?_; refine ol_ev (ev_assign rfl) rfl ?_; refine ol_nil ?_; refine cw_block ?_
  refine cw_loop (σ := Nat × Nat × Nat × List Value × List (List UInt8) × List (List UInt8)) (fun g => [(0, str text), (2, .pointer (some ⟨r0, 0, none⟩)), (3, .pointer (some ⟨b3, 0, none⟩)), (4, .int .i64 (g.2.1 : Int)), (5, .int .i64 (g.1 : Int))])
    (fun g => [(b3, ⟨[.slice (some ⟨g.2.2.1, 0, none⟩) g.2.2.2.2.1.length (g.2.2.2.2.1.length + g.2.2.2.1.length), .int .i64 0], 41, (0, 0)⟩), (g.2.2.1, strO g.2.2.2.2.1 g.2.2.2.1), (r0, ⟨[.slice none 0 0, .int .i64 0], 41, (0, 0)⟩)])
    (fun g => g.1 ≤ text.length + 1 ∧ g.2.1 ≤ g.1 ∧ g.2.2.2.2.1 ++ g.2.2.2.2.2 = ts ∧ (g.1 = text.length + 1 → g.2.2.2.2.2 = []) ∧ (g.1 ≤ text.length → Run lq () (text.drop g.2.1) g.2.2.2.2.2 none ∧ ∀ j, g.2.1 ≤ j → j < g.1 → text[j]? ≠ some 10)) (fun g => text.length + 1 - g.1)
    (0, 0, ob, [], [], ts) ⟨Nat.zero_le _, Nat.le_refl _, rfl, fun h => by simp at h, fun _ => ⟨by simpa using hr, fun j _ h => by simp at h⟩⟩ (fun a ha => ha.weak ⟨rfl, rfl, rfl, rfl, rfl, trivial⟩) rfl ?_
  rintro ⟨i, b, ob, sp, ds, ls⟩ ⟨hi, hb, hts, hend, hgo⟩
  simp only at hi hb hts hend hgo ⊢
  have hdl : ds.length ≤ ts.length := by rw [← hts]; simp
  refine cw_seq ?_; refine cw_seq ?_; refine cw_region ?_; refine ol_ev (ev_move rfl) rfl ?_; refine ol_ev (ev_move rfl) rfl ?_; refine ol_ev (ev_len_str rfl) rfl ?_; refine ol_ev (ev_le rfl rfl) rfl ?_; refine ol_nil ?_
  refine cw_ifd rfl (fun h2 => ?_) (fun h2 => ?_)
  · have hi' : i ≤ text.length := by omega
    obtain ⟨hrun, hno⟩ := hgo hi'
    have hnext : ls = [] ∨ i < text.length → (text[i]? ≠ some 10) → (fun (l' : Env) (H' : Heap) => ∃ g' : Nat × Nat × Nat × List Value × List (List UInt8) × List (List UInt8), (g'.1 ≤ text.length + 1 ∧ g'.2.1 ≤ g'.1 ∧ g'.2.2.2.2.1 ++ g'.2.2.2.2.2 = ts ∧ (g'.1 = text.length + 1 → g'.2.2.2.2.2 = []) ∧ (g'.1 ≤ text.length → Run lq () (text.drop g'.2.1) g'.2.2.2.2.2 none ∧ ∀ j, g'.2.1 ≤ j → j < g'.1 → text[j]? ≠ some 10)) ∧ g' = (i + 1, b, ob, sp, ds, ls) ∧ True) [] [] := fun h1 h3 =>
      ⟨(i + 1, b, ob, sp, ds, ls), ⟨by show i + 1 ≤ text.length + 1; omega, by show b ≤ i + 1; omega, hts, fun h => by rcases h1 with h1 | h1; exact h1; simp only at h; omega, fun h => ⟨hrun, fun j hj hj2 => by
        simp only at hj2
        rcases Nat.lt_succ_iff_lt_or_eq.1 hj2 with hj3 | rfl
        · exact hno j hj hj3
        · exact h3⟩⟩, rfl, trivial⟩
    refine cw_skip ?_
    refine cw_seq ?_
    refine cw_block ?_
    refine cw_cut (fun l' H' => SubE l' [(0, str text), (2, .pointer (some ⟨r0, 0, none⟩)), (3, .pointer (some ⟨b3, 0, none⟩)), (4, .int .i64 (b : Int)), (5, .int .i64 (i : Int)), (6, .bool (decide (text[i]? = some 10)))] ∧ H' = [(b3, ⟨[.slice (some ⟨ob, 0, none⟩) ds.length (ds.length + sp.length), .int .i64 0], 41, (0, 0)⟩), (ob, strO ds sp), (r0, ⟨[.slice none 0 0, .int .i64 0], 41, (0, 0)⟩)]) ?_ ?_
    · by_cases hx : i < text.length
      · have hc : text[((i : Nat) : Int).toNat]? = some text[i] := by rw [show ((i : Nat) : Int).toNat = i by omega]; exact List.getElem?_eq_getElem hx
        refine cw_region ?_; refine ol_ev (ev_move rfl) rfl ?_; refine ol_ev (ev_move rfl) rfl ?_; refine ol_ev (ev_len_str rfl) rfl ?_; refine ol_ev (ev_lt rfl rfl) rfl ?_; refine ol_ev (ev_move rfl) rfl ?_
        rw [decide_eq_true (show ((i : Nat) : Int) < ((text.length : Nat) : Int) by omega)]
        refine ol_on rfl rfl rfl ?_; refine ol_ev (ev_move rfl) rfl ?_; refine ol_on rfl rfl rfl ?_; refine ol_ev (ev_move rfl) rfl ?_; refine ol_on rfl rfl rfl ?_
        refine ol_ev (ev_index_str rfl rfl (by omega) hc) rfl ?_
        refine ol_on rfl rfl rfl ?_; refine ol_ev (ev_eq rfl rfl) rfl ?_; refine ol_ev (ev_pick_t rfl rfl) rfl ?_; refine ol_ev (ev_assign rfl) rfl ?_; refine ol_nil ?_
        refine ⟨⟨rfl, rfl, rfl, rfl, rfl, ?_, trivial⟩, rfl⟩
        have e9 : decide (text[i]? = some 10) = decide (((text[i].toNat : Nat) : Int) = 10) := by
          rw [List.getElem?_eq_getElem hx]
          congr 1
          apply propext
          constructor
          · intro h; rw [Option.some.inj h]; rfl
          · intro h; rw [(bv_dec text[i] 10).1 h]
        rw [e9]; rfl
      · refine cw_region ?_; refine ol_ev (ev_move rfl) rfl ?_; refine ol_ev (ev_move rfl) rfl ?_; refine ol_ev (ev_len_str rfl) rfl ?_; refine ol_ev (ev_lt rfl rfl) rfl ?_; refine ol_ev (ev_move rfl) rfl ?_
        rw [decide_eq_false (show ¬ ((i : Nat) : Int) < ((text.length : Nat) : Int) by omega)]
        (iterate 4 (refine ol_off rfl rfl rfl rfl rfl ?_)); refine ol_ev (ev_pick_f rfl rfl) rfl ?_; refine ol_ev (ev_assign rfl) rfl ?_; refine ol_nil ?_
        refine ⟨⟨rfl, rfl, rfl, rfl, rfl, ?_, trivial⟩, rfl⟩
        rw [List.getElem?_eq_none (by omega)]; rfl
    rintro l' H' ⟨hl', rfl⟩
    refine CW.weak hl' ?_
    clear hl'
    refine cw_cut (fun l' H' => SubE l' [(0, str text), (2, .pointer (some ⟨r0, 0, none⟩)), (3, .pointer (some ⟨b3, 0, none⟩)), (4, .int .i64 (b : Int)), (5, .int .i64 (i : Int))] ∧ H' = [(b3, ⟨[.slice (some ⟨ob, 0, none⟩) ds.length (ds.length + sp.length), .int .i64 0], 41, (0, 0)⟩), (ob, strO ds sp), (r0, ⟨[.slice none 0 0, .int .i64 0], 41, (0, 0)⟩)] ∧ ∃ ls', ls = dropC ((text.drop b).take (i - b)) :: ls' ∧ (i < text.length → Run lq () (text.drop (i + 1)) ls' none) ∧ (i = text.length → ls' = [])) ?_ ?_
    · by_cases hnl : text[i]? = some 10
      · have hx : i < text.length := (List.getElem?_eq_some_iff.1 hnl).1
        have hc : text[i] = 10 := by rw [List.getElem?_eq_getElem hx] at hnl; exact Option.some.inj hnl
        obtain ⟨ls', rfl, hrun'⟩ := lrun_cons hrun (nl_here hb hx hc hno)
        rw [List.drop_drop, show b + (i - b + 1) = i + 1 by omega] at hrun'
        rw [decide_eq_true hnl]
        refine cw_seq ?_; refine cw_region ?_; refine ol_ev (ev_move rfl) rfl ?_; refine ol_ev (ev_not rfl) rfl ?_; refine ol_ev (ev_move rfl) rfl ?_; (iterate 5 (refine ol_off rfl rfl rfl rfl rfl ?_)); (iterate 3 (refine ol_offu rfl rfl rfl rfl ?_)); refine ol_off rfl rfl rfl rfl rfl ?_; refine ol_ev (ev_pick_f rfl rfl) rfl ?_; refine ol_nil ?_; refine cw_if_f rfl ?_; refine cw_skip ?_
        exact ⟨⟨rfl, rfl, rfl, rfl, rfl, trivial⟩, rfl, ls', rfl, fun _ => hrun', fun h => by omega⟩
      · rw [decide_eq_false hnl]
        by_cases hx : i < text.length
        · refine cw_seq ?_; refine cw_region ?_; refine ol_ev (ev_move rfl) rfl ?_; refine ol_ev (ev_not rfl) rfl ?_; refine ol_ev (ev_move rfl) rfl ?_; refine ol_on rfl rfl rfl ?_; refine ol_ev (ev_move rfl) rfl ?_; refine ol_on rfl rfl rfl ?_; refine ol_ev (ev_move rfl) rfl ?_; refine ol_on rfl rfl rfl ?_; refine ol_ev (ev_len_str rfl) rfl ?_; refine ol_on rfl rfl rfl ?_; refine ol_ev (ev_lt rfl rfl) rfl ?_; refine ol_on rfl rfl rfl ?_; refine ol_ev (ev_move rfl) rfl ?_
          rw [decide_eq_true (show ((i : Nat) : Int) < ((text.length : Nat) : Int) by omega)]
          (iterate 3 (refine ol_off rfl rfl rfl rfl rfl ?_)); refine ol_on rfl rfl rfl ?_; refine ol_ev (ev_pick_t rfl rfl) rfl ?_; refine ol_ev (ev_pick_t rfl rfl) rfl ?_; refine ol_nil ?_; refine cw_if_t rfl ?_; refine cw_exit ?_; refine cw_region ?_; refine ol_ev (ev_move rfl) rfl ?_; (refine ol_ev (ev_add rfl rfl ?_) rfl ?_; (constructor <;> omega)); refine ol_ev (ev_assign rfl) rfl ?_; refine ol_nil ?_
          obtain ⟨g', h3, rfl, _⟩ := hnext (.inr hx) hnl
          exact ⟨_, h3, ⟨rfl, rfl, rfl, rfl, rfl, trivial⟩, rfl, by show text.length + 1 - (i + 1) < text.length + 1 - i; omega⟩
        · have hie : i = text.length := by omega
          refine cw_seq ?_; refine cw_region ?_; refine ol_ev (ev_move rfl) rfl ?_; refine ol_ev (ev_not rfl) rfl ?_; refine ol_ev (ev_move rfl) rfl ?_; refine ol_on rfl rfl rfl ?_; refine ol_ev (ev_move rfl) rfl ?_; refine ol_on rfl rfl rfl ?_; refine ol_ev (ev_move rfl) rfl ?_; refine ol_on rfl rfl rfl ?_; refine ol_ev (ev_len_str rfl) rfl ?_; refine ol_on rfl rfl rfl ?_; refine ol_ev (ev_lt rfl rfl) rfl ?_; refine ol_on rfl rfl rfl ?_; refine ol_ev (ev_move rfl) rfl ?_
          rw [decide_eq_false (show ¬ ((i : Nat) : Int) < ((text.length : Nat) : Int) by omega)]
          refine ol_on rfl rfl rfl ?_; refine ol_ev (ev_move rfl) rfl ?_; refine ol_on rfl rfl rfl ?_; refine ol_ev (ev_move rfl) rfl ?_; refine ol_on rfl rfl rfl ?_; refine ol_ev (ev_eq rfl rfl) rfl ?_; refine ol_on rfl rfl rfl ?_; refine ol_ev (ev_pick_f rfl rfl) rfl ?_; refine ol_ev (ev_pick_t rfl rfl) rfl ?_; refine ol_nil ?_
          by_cases hbe : b = i
          · have hls : ls = [] := by
              rw [hbe, List.drop_of_length_le (by omega)] at hrun
              exact lrun_nil hrun
            rw [decide_eq_true (show ((b : Nat) : Int) = ((i : Nat) : Int) by omega)]
            refine cw_if_t rfl ?_; refine cw_exit ?_; refine cw_region ?_; refine ol_ev (ev_move rfl) rfl ?_; (refine ol_ev (ev_add rfl rfl ?_) rfl ?_; (constructor <;> omega)); refine ol_ev (ev_assign rfl) rfl ?_; refine ol_nil ?_
            obtain ⟨g', h3, rfl, _⟩ := hnext (.inl hls) hnl
            exact ⟨_, h3, ⟨rfl, rfl, rfl, rfl, rfl, trivial⟩, rfl, by show text.length + 1 - (i + 1) < text.length + 1 - i; omega⟩
          · have hr0 : text.drop b ≠ [] := fun h => by have := congrArg List.length h; rw [List.length_drop] at this; simp at this; omega
            have hls := lrun_last hrun (nl_not fun j h1 h3 => hno j h1 (by omega)) hr0
            have etk : (text.drop b).take (i - b) = text.drop b := List.take_of_length_le (by rw [List.length_drop]; omega)
            rw [decide_eq_false (show ¬ ((b : Nat) : Int) = ((i : Nat) : Int) by omega)]
            refine cw_if_f rfl ?_; refine cw_skip ?_
            exact ⟨⟨rfl, rfl, rfl, rfl, rfl, trivial⟩, rfl, [], by rw [etk]; exact hls, fun h => by omega, fun _ => rfl⟩
    rintro l' H' ⟨hl', rfl, ls', rfl, hrun', hend'⟩
    refine CW.weak hl' ?_
    clear hl' hnext
    have hds1 : ds.length + 1 ≤ ts.length := by rw [← hts]; simp
    refine cw_seq ?_
    refine cw_region ?_; refine ol_ev (ev_move rfl) rfl ?_; refine ol_ev (ev_assign rfl) rfl ?_; refine ol_nil ?_
    refine cw_cut (fun l' H' => ∃ en : Nat, SubE l' [(0, str text), (2, .pointer (some ⟨r0, 0, none⟩)), (3, .pointer (some ⟨b3, 0, none⟩)), (4, .int .i64 (b : Int)), (5, .int .i64 (i : Int)), (7, .int .i64 (en : Int))] ∧ H' = [(b3, ⟨[.slice (some ⟨ob, 0, none⟩) ds.length (ds.length + sp.length), .int .i64 0], 41, (0, 0)⟩), (ob, strO ds sp), (r0, ⟨[.slice none 0 0, .int .i64 0], 41, (0, 0)⟩)] ∧ b ≤ en ∧ en ≤ text.length ∧ (text.drop b).take (en - b) = dropC ((text.drop b).take (i - b))) ?_ ?_
    · by_cases hbi : b < i
      · have hc : text[(((i : Nat) : Int) - 1).toNat]? = some text[i - 1] := by rw [show (((i : Nat) : Int) - 1).toNat = i - 1 by omega]; exact List.getElem?_eq_getElem (by omega)
        have hdc := dropC_sub hbi hi'
        rw [List.getElem?_eq_getElem (show i - 1 < text.length by omega)] at hdc
        refine cw_seq ?_; refine cw_region ?_; refine ol_ev (ev_move rfl) rfl ?_; refine ol_ev (ev_move rfl) rfl ?_; refine ol_ev (ev_gt rfl rfl) rfl ?_; refine ol_ev (ev_move rfl) rfl ?_
        rw [decide_eq_true (show ((b : Nat) : Int) < ((i : Nat) : Int) by omega)]
        refine ol_on rfl rfl rfl ?_; refine ol_ev (ev_move rfl) rfl ?_; refine ol_on rfl rfl rfl ?_; refine ol_ev (ev_move rfl) rfl ?_; refine ol_on rfl rfl rfl ?_; (refine ol_ev (ev_sub rfl rfl ?_) rfl ?_; (constructor <;> omega)); refine ol_on rfl rfl rfl ?_
        refine ol_ev (ev_index_str rfl rfl (by omega) hc) rfl ?_
        refine ol_on rfl rfl rfl ?_; refine ol_ev (ev_eq rfl rfl) rfl ?_; refine ol_ev (ev_pick_t rfl rfl) rfl ?_; refine ol_nil ?_
        refine cw_ifd rfl (fun h3 => ?_) (fun h3 => ?_)
        · rw [if_pos (by rw [(bv_dec text[i - 1] 13).1 h3])] at hdc
          refine cw_region ?_; refine ol_ev (ev_move rfl) rfl ?_; (refine ol_ev (ev_sub rfl rfl ?_) rfl ?_; (constructor <;> omega)); refine ol_ev (ev_assign rfl) rfl ?_; refine ol_nil ?_
          refine ⟨i - 1, ⟨rfl, rfl, rfl, rfl, rfl, ?_, trivial⟩, rfl, by omega, by omega, hdc.symm⟩
          rw [show ((i - 1 : Nat) : Int) = ((i : Nat) : Int) - 1 by omega]; rfl
        · rw [if_neg (fun h => h3 (by rw [Option.some.inj h]; rfl))] at hdc
          refine cw_skip ?_
          exact ⟨i, ⟨rfl, rfl, rfl, rfl, rfl, rfl, trivial⟩, rfl, hb, hi', hdc.symm⟩
      · refine cw_seq ?_; refine cw_region ?_; refine ol_ev (ev_move rfl) rfl ?_; refine ol_ev (ev_move rfl) rfl ?_; refine ol_ev (ev_gt rfl rfl) rfl ?_; refine ol_ev (ev_move rfl) rfl ?_
        rw [decide_eq_false (show ¬ ((b : Nat) : Int) < ((i : Nat) : Int) by omega)]
        (iterate 5 (refine ol_off rfl rfl rfl rfl rfl ?_)); refine ol_ev (ev_pick_f rfl rfl) rfl ?_; refine ol_nil ?_; refine cw_if_f rfl ?_; refine cw_skip ?_
        refine ⟨i, ⟨rfl, rfl, rfl, rfl, rfl, rfl, trivial⟩, rfl, hb, hi', ?_⟩
        rw [show i - b = 0 by omega, List.take_zero]; rfl
    rintro l' H' ⟨en, hl', rfl, hen1, hen2, hent⟩
    refine CW.weak hl' ?_
    clear hl'
    rw [← hent] at hts
    have hsub : sub text (((b : Nat) : Int)).toNat (((en : Nat) : Int)).toNat = (text.drop b).take (en - b) := by
      rw [show (((b : Nat) : Int)).toNat = b by omega, show (((en : Nat) : Int)).toNat = en by omega]; rfl
    generalize (text.drop b).take (en - b) = t at hts hsub
    refine cw_seq ?_
    refine cw_floatx [(0, false), (1, false), (2, false), (3, false), (4, false), (5, false), (6, true), (7, true), (8, false)] 9 [(b3, ⟨[.slice (some ⟨ob, 0, none⟩) ds.length (ds.length + sp.length), .int .i64 0], 41, (0, 0)⟩)] mixed (by kernel_rfl) rfl (List.Sublist.cons_cons _ (List.nil_sublist _)) (fun _ _ _ h => h) (fun _ _ h => h) ?_
    refine fl_ev rfl (ev_fld rfl) rfl ?_; refine fl_ev rfl (ev_load rfl m0 rfl) rfl ?_; (iterate 3 (refine fl_ev rfl (ev_move rfl) rfl ?_))
    refine fl_ev rfl (ev_slice_str rfl rfl rfl (by omega) (by omega) (by omega)) rfl ?_
    rw [hsub]
    refine fl_x rfl ?_
    refine ol_slice1 rfl rfl rfl rfl fun b1 => ?_
    refine ol_nil ⟨sub_cons m1 sub_nil, ?_⟩
    refine fl_x rfl ?_
    refine ol_append (xs := ds.map str) (sp := sp) (ys := [str t]) rfl rfl (fun _ _ => r2) m0 (by simp) (by simp) rfl rfl (by intro u hu; simp only [List.mem_singleton] at hu; subst hu; rfl) rfl (by omega) (by omega) rfl ?_
    intro b' sp'
    refine ol_nil ⟨sub_cons m1 sub_nil, ?_⟩
    refine fl_ev rfl (ev_fld rfl) rfl ?_
    refine fl_nil ?_
    refine OL.less (List.sublist_cons_self _ _) ?_
    refine ol_store rfl rfl rfl u0 rfl rfl ?_; refine ol_nil ?_; refine cw_region ?_; refine ol_ev (ev_move rfl) rfl ?_; (refine ol_ev (ev_add rfl rfl ?_) rfl ?_; (constructor <;> omega)); refine ol_ev (ev_assign rfl) rfl ?_; refine ol_nil ?_; refine cw_region ?_; refine ol_ev (ev_move rfl) rfl ?_; (refine ol_ev (ev_add rfl rfl ?_) rfl ?_; (constructor <;> omega)); refine ol_ev (ev_assign rfl) rfl ?_; refine ol_nil ?_
    refine ⟨(i + 1, i + 1, b', sp', ds ++ [t], ls'), ⟨by show i + 1 ≤ text.length + 1; omega, Nat.le_refl _, by simpa using hts, fun h => hend' (by simp only at h; omega), fun h => ⟨hrun' (by simp only at h; omega), fun j hj hj2 => by simp only at hj hj2; omega⟩⟩, ⟨rfl, rfl, rfl, rfl, rfl, trivial⟩, ?_, by show text.length + 1 - (i + 1) < text.length + 1 - i; omega⟩
    have e1 : (ds.map str ++ [str t]).length = ds.length + 1 := by simp
    have e2 : ds.map str ++ [str t] = (ds ++ [t]).map str := by simp
    have e3 : (ds ++ [t]).length = ds.length + 1 := by simp
    simp only [e1, e3]
    rw [e2]; rfl
  · have hls : ls = [] := hend (by omega)
    subst hls
    rw [List.append_nil] at hts
    subst hts
    refine cw_exit ?_; refine cw_seq ?_; refine cw_region ?_
    refine ol_ev (ev_loadS (cs := [.slice (some ⟨ob, 0, none⟩) ds.length (ds.length + sp.length), .int .i64 0]) rfl rfl m0 rfl) rfl ?_
    refine ol_storeS (o := ⟨[.slice none 0 0, .int .i64 0], 41, (0, 0)⟩) (cs := [.slice (some ⟨ob, 0, none⟩) ds.length (ds.length + sp.length), .int .i64 0]) rfl rfl rfl (by simp [Value.oneCell']) u2 rfl rfl ?_
    refine ol_nil ?_; refine cw_ret ?_
    exact ⟨_, resC (cs := [.slice (some ⟨ob, 0, none⟩) ds.length (ds.length + sp.length), .int .i64 0]) rfl rfl rfl m2 rfl, _, rfl, ob, _, sp, rfl, m1, Nat.le_add_right _ _⟩
theorem specWords_ct (text : List UInt8) (ts : List (List UInt8)) (hr : Run wq () text ts none) (hA : Ascii text) (hl : text.length ≤ 1099511627776) :
    Ct Tryd.prog W 31 #[str text] [] (fun v H' => ∃ u, v = .agg #[u, .int .i64 0] ∧ StrsAt H' u ts) := by
  refine ct_of_cw (vs := [_]) Tryd.func31 rfl rfl fun w1 => ?_
  refine cw_seq ?_; refine cw_region ?_
  refine ol_alloc rfl fun r0 => ?_
  refine ol_nil ?_; refine cw_seq ?_; refine cw_region ?_
  refine ol_slice0 rfl fun ob => ?_
  refine ol_ev (ev_build1 rfl rfl) rfl ?_
  refine ol_alloc rfl fun b3 => ?_
  refine ol_storeS (o := ⟨[.slice none 0 0, .int .i64 0], 41, (0, 0)⟩) (cs := [.slice (some ⟨ob, 0, none⟩) 0 0, .int .i64 0]) rfl rfl rfl (by simp [Value.oneCell']) u0 rfl rfl ?_
  refine ol_nil ?_; refine cw_seq ?_; refine cw_region ?_; refine ol_ev (ev_assign rfl) rfl ?_; refine ol_nil ?_; refine cw_seq ?_; refine cw_seq ?_; refine cw_region ?_; refine ol_ev (ev_assign rfl) rfl ?_; refine ol_nil ?_; refine cw_block ?_
  refine cw_loop (σ := Nat × Nat × List Value × List (List UInt8) × Bool) (fun g => [(0, str text), (2, .pointer (some ⟨r0, 0, none⟩)), (3, .pointer (some ⟨b3, 0, none⟩)), (4, .bool g.2.2.2.2), (5, .int .i64 (g.1 : Int))])
    (fun g => [(b3, ⟨[.slice (some ⟨g.2.1, 0, none⟩) g.2.2.2.1.length (g.2.2.2.1.length + g.2.2.1.length), .int .i64 0], 41, (0, 0)⟩), (g.2.1, strO g.2.2.2.1 g.2.2.1), (r0, ⟨[.slice none 0 0, .int .i64 0], 41, (0, 0)⟩)])
    (fun g => g.1 ≤ text.length ∧ g.2.2.2.1.length ≤ g.1 ∧ (∀ t ∈ g.2.2.2.1, t.length ≤ g.1) ∧ WS g.2.2.2.2 g.2.2.2.1 (text.drop g.1) ts) (fun g => text.length - g.1)
    (0, ob, [], [], false) ⟨Nat.zero_le _, by simp, by simp, ⟨ts, by simpa using hr, rfl⟩⟩ (fun a ha => ha.weak ⟨rfl, rfl, rfl, rfl, rfl, trivial⟩) rfl ?_
  rintro ⟨i, ob, sp, ds, ins⟩ ⟨hi, hdl, htl, hws⟩
  simp only at hi hdl htl hws ⊢
  refine cw_seq ?_; refine cw_seq ?_; refine cw_region ?_; refine ol_ev (ev_move rfl) rfl ?_; refine ol_ev (ev_move rfl) rfl ?_; refine ol_ev (ev_len_str rfl) rfl ?_; refine ol_ev (ev_lt rfl rfl) rfl ?_; refine ol_nil ?_
  refine cw_ifd rfl (fun h2 => ?_) (fun h2 => ?_)
  · have hx : i < text.length := by omega
    have hc : text[((i : Nat) : Int).toNat]? = some text[i] := by rw [show ((i : Nat) : Int).toNat = i by omega]; exact List.getElem?_eq_getElem hx
    have hcons : text.drop i = text[i] :: text.drop (i + 1) := List.drop_eq_getElem_cons hx
    have h8 : text[i].toNat < 128 := hA _ (List.getElem_mem hx)
    have hA' : Ascii (text[i] :: text.drop (i + 1)) := by rw [← hcons]; exact fun c hm => hA c (List.mem_of_mem_drop hm)
    rw [hcons] at hws
    refine cw_skip ?_
    refine cw_seq ?_
    refine cw_block ?_
    refine cw_seq ?_
    refine cw_region ?_
    refine ol_ev (ev_move rfl) rfl ?_; refine ol_ev (ev_move rfl) rfl ?_
    refine ol_ev (ev_index_str rfl rfl (by omega) hc) rfl ?_
    refine ol_ev (ev_assign rfl) rfl ?_; refine ol_nil ?_
    by_cases hsp : sp8 text[i] = true
    · have hnext : ∃ g' : Nat × Nat × List Value × List (List UInt8) × Bool, (g'.1 ≤ text.length ∧ g'.2.2.2.1.length ≤ g'.1 ∧ (∀ t ∈ g'.2.2.2.1, t.length ≤ g'.1) ∧ WS g'.2.2.2.2 g'.2.2.2.1 (text.drop g'.1) ts) ∧ g' = (i + 1, ob, sp, ds, false) :=
        ⟨(i + 1, ob, sp, ds, false), ⟨hx, by show ds.length ≤ i + 1; omega, fun t ht => by have := htl t ht; show t.length ≤ i + 1; omega, hws.space h8 hsp⟩, rfl⟩
      obtain ⟨g', h3, rfl⟩ := hnext
      have hs := of_decide_eq_true hsp
      by_cases h32 : text[i].toNat = 32
      · refine cw_seq ?_; refine cw_seq ?_; refine cw_region ?_; refine ol_ev (ev_move rfl) rfl ?_; refine ol_ev (ev_eq rfl rfl) rfl ?_; refine ol_ev (ev_move rfl) rfl ?_
        rw [decide_eq_true (show ((text[i].toNat : Nat) : Int) = 32 by omega)]
        (iterate 3 (refine ol_off rfl rfl rfl rfl rfl ?_)); refine ol_offu rfl rfl rfl rfl ?_; refine ol_offu rfl rfl rfl rfl ?_; refine ol_off rfl rfl rfl rfl rfl ?_; refine ol_ev (ev_pick_t rfl rfl) rfl ?_; refine ol_nil ?_; refine cw_if_t rfl ?_; refine cw_seq ?_; refine cw_region ?_; refine ol_ev (ev_assign rfl) rfl ?_; refine ol_nil ?_; refine cw_exit ?_; refine cw_region ?_; refine ol_ev (ev_move rfl) rfl ?_; (refine ol_ev (ev_add rfl rfl ?_) rfl ?_; (constructor <;> omega)); refine ol_ev (ev_assign rfl) rfl ?_; refine ol_nil ?_
        exact ⟨_, h3, ⟨rfl, rfl, rfl, rfl, rfl, trivial⟩, rfl, by show text.length - (i + 1) < text.length - i; omega⟩
      · refine cw_seq ?_; refine cw_seq ?_; refine cw_region ?_; refine ol_ev (ev_move rfl) rfl ?_; refine ol_ev (ev_eq rfl rfl) rfl ?_; refine ol_ev (ev_move rfl) rfl ?_
        rw [decide_eq_false (show ¬ ((text[i].toNat : Nat) : Int) = 32 by omega)]
        refine ol_on rfl rfl rfl ?_; refine ol_ev (ev_move rfl) rfl ?_; refine ol_on rfl rfl rfl ?_; refine ol_ev (ev_ge rfl rfl) rfl ?_; refine ol_on rfl rfl rfl ?_; refine ol_ev (ev_move rfl) rfl ?_
        rw [decide_eq_true (show (9 : Int) ≤ ((text[i].toNat : Nat) : Int) by omega)]
        refine ol_on rfl rfl rfl ?_; refine ol_ev (ev_move rfl) rfl ?_; refine ol_on rfl rfl rfl ?_; refine ol_ev (ev_le rfl rfl) rfl ?_; refine ol_on rfl rfl rfl ?_; refine ol_ev (ev_pick_t rfl rfl) rfl ?_; refine ol_ev (ev_pick_f rfl rfl) rfl ?_; refine ol_nil ?_
        rw [decide_eq_true (show ((text[i].toNat : Nat) : Int) ≤ 13 by omega)]
        refine cw_if_t rfl ?_; refine cw_seq ?_; refine cw_region ?_; refine ol_ev (ev_assign rfl) rfl ?_; refine ol_nil ?_; refine cw_exit ?_; refine cw_region ?_; refine ol_ev (ev_move rfl) rfl ?_; (refine ol_ev (ev_add rfl rfl ?_) rfl ?_; (constructor <;> omega)); refine ol_ev (ev_assign rfl) rfl ?_; refine ol_nil ?_
        exact ⟨_, h3, ⟨rfl, rfl, rfl, rfl, rfl, trivial⟩, rfl, by show text.length - (i + 1) < text.length - i; omega⟩
    · have hsf : sp8 text[i] = false := by simpa using hsp
      have hs := of_decide_eq_false hsf
      refine cw_cut (fun l' H' => SubE l' [(0, str text), (2, .pointer (some ⟨r0, 0, none⟩)), (3, .pointer (some ⟨b3, 0, none⟩)), (4, .bool ins), (5, .int .i64 (i : Int))] ∧ H' = [(b3, ⟨[.slice (some ⟨ob, 0, none⟩) ds.length (ds.length + sp.length), .int .i64 0], 41, (0, 0)⟩), (ob, strO ds sp), (r0, ⟨[.slice none 0 0, .int .i64 0], 41, (0, 0)⟩)]) ?_ ?_
      · refine cw_seq ?_; refine cw_region ?_; refine ol_ev (ev_move rfl) rfl ?_; refine ol_ev (ev_eq rfl rfl) rfl ?_; refine ol_ev (ev_move rfl) rfl ?_
        rw [decide_eq_false (show ¬ ((text[i].toNat : Nat) : Int) = 32 by omega)]
        refine ol_on rfl rfl rfl ?_; refine ol_ev (ev_move rfl) rfl ?_; refine ol_on rfl rfl rfl ?_; refine ol_ev (ev_ge rfl rfl) rfl ?_; refine ol_on rfl rfl rfl ?_; refine ol_ev (ev_move rfl) rfl ?_
        by_cases h9 : (9 : Int) ≤ ((text[i].toNat : Nat) : Int)
        · rw [decide_eq_true h9]
          refine ol_on rfl rfl rfl ?_; refine ol_ev (ev_move rfl) rfl ?_; refine ol_on rfl rfl rfl ?_; refine ol_ev (ev_le rfl rfl) rfl ?_; refine ol_on rfl rfl rfl ?_; refine ol_ev (ev_pick_t rfl rfl) rfl ?_; refine ol_ev (ev_pick_f rfl rfl) rfl ?_; refine ol_nil ?_
          rw [decide_eq_false (show ¬ ((text[i].toNat : Nat) : Int) ≤ 13 by omega)]
          refine cw_if_f rfl ?_; refine cw_skip ?_
          exact ⟨⟨rfl, rfl, rfl, rfl, rfl, trivial⟩, rfl⟩
        · rw [decide_eq_false h9]
          refine ol_off rfl rfl rfl rfl rfl ?_; refine ol_off rfl rfl rfl rfl rfl ?_; refine ol_on rfl rfl rfl ?_; refine ol_ev (ev_pick_f rfl rfl) rfl ?_; refine ol_ev (ev_pick_f rfl rfl) rfl ?_; refine ol_nil ?_; refine cw_if_f rfl ?_; refine cw_skip ?_
          exact ⟨⟨rfl, rfl, rfl, rfl, rfl, trivial⟩, rfl⟩
      rintro l' H' ⟨hl', rfl⟩
      refine CW.weak hl' ?_
      clear hl'
      refine cw_cut (fun l' H' => ∃ ob sp ds t, SubE l' [(0, str text), (2, .pointer (some ⟨r0, 0, none⟩)), (3, .pointer (some ⟨b3, 0, none⟩)), (5, .int .i64 (i : Int))] ∧
        H' = [(b3, ⟨[.slice (some ⟨ob, 0, none⟩) (ds.length + 1) (ds.length + 1 + sp.length), .int .i64 0], 41, (0, 0)⟩), (ob, strO (ds ++ [t]) sp), (r0, ⟨[.slice none 0 0, .int .i64 0], 41, (0, 0)⟩)] ∧ WS true (ds ++ [t ++ [text[i]]]) (text.drop (i + 1)) ts ∧ ds.length ≤ i ∧ t.length ≤ i ∧ ∀ u ∈ ds, u.length ≤ i) ?_ ?_
      · cases ins with
        | true =>
          obtain ⟨ds0, w0, hds⟩ : ∃ ds0 w0, ds = ds0 ++ [w0] := by obtain ⟨d', w', _, h, _⟩ := hws; exact ⟨d', w', h⟩
          subst hds
          have hw := hws.on hsf
          have hw0 := htl w0 (by simp)
          refine cw_seq ?_; refine cw_region ?_; refine ol_ev (ev_move rfl) rfl ?_; refine ol_ev (ev_not rfl) rfl ?_; refine ol_nil ?_; refine cw_if_f rfl ?_; refine cw_skip ?_
          refine ⟨ob, sp, ds0, w0, ⟨rfl, rfl, rfl, rfl, trivial⟩, ?_, hw, by simp at hdl; omega, hw0, fun u hu => htl u (by simp [hu])⟩
          rw [List.length_append, List.length_singleton]
        | false =>
          have hw := hws.new hA' hsf
          refine cw_seq ?_; refine cw_region ?_; refine ol_ev (ev_move rfl) rfl ?_; refine ol_ev (ev_not rfl) rfl ?_; refine ol_nil ?_; refine cw_if_t rfl ?_; refine cw_region ?_; refine ol_ev (ev_fld rfl) rfl ?_; refine ol_ev (ev_load rfl m0 rfl) rfl ?_
          refine ol_slice1 rfl rfl rfl rfl fun b1 => ?_
          refine ol_append (xs := ds.map str) (sp := sp) (ys := [str []]) rfl rfl (fun _ _ => r2) m0 (by simp) (by simp) rfl rfl (by intro u hu; simp only [List.mem_singleton] at hu; subst hu; rfl) rfl (by omega) (by omega) rfl ?_
          intro b' sp'
          refine OL.less (List.sublist_cons_self _ _) ?_
          refine ol_ev (ev_fld rfl) rfl ?_; refine ol_store rfl rfl rfl u0 rfl rfl ?_; refine ol_nil ?_
          refine ⟨b', sp', ds, [], ⟨rfl, rfl, rfl, rfl, trivial⟩, ?_, hw, hdl, by simp, htl⟩
          have e1 : (ds.map str ++ [str []]).length = ds.length + 1 := by simp
          have e2 : ds.map str ++ [str []] = (ds ++ [[]]).map str := by simp
          rw [e1, e2]; rfl
      · rintro l' H' ⟨ob, sp, ds, t, hl', rfl, hw, hdl, htt, hall⟩
        refine CW.weak hl' ?_
        refine cw_seq ?_
        refine cw_region ?_; refine ol_ev (ev_assign rfl) rfl ?_; refine ol_nil ?_
        refine cw_mid 15 mixed (by kernel_rfl) rfl ?_
        refine sl_ev (ev_fld rfl) rfl ?_; refine sl_ev (ev_load rfl m0 rfl) rfl ?_; refine sl_ev (ev_fld rfl) rfl ?_; refine sl_ev (ev_load rfl m0 rfl) rfl ?_; refine sl_ev (ev_len_s rfl) rfl ?_; (refine sl_ev (ev_sub rfl rfl ?_) rfl ?_; (constructor <;> omega))
        refine sl_ev (ev_idx1 rfl rfl (by omega) (by omega)) rfl ?_
        refine sl_ev (ev_load rfl m1 strO_last) rfl ?_
        (iterate 3 (refine sl_ev (ev_move rfl) rfl ?_)); (refine sl_ev (ev_add rfl rfl ?_) rfl ?_; (constructor <;> omega))
        refine sl_ev (ev_slice_str rfl rfl rfl (by omega) (by omega) (by omega)) rfl ?_
        rw [sub_one hx]
        refine sl_ev (ev_concat rfl rfl (by simp only [List.length_singleton]; omega)) rfl ?_
        refine sl_ev (ev_idx1 rfl rfl (by omega) (by omega)) rfl ?_
        refine sl_nil ?_
        refine ol_store rfl rfl rfl u1 ?_ rfl ?_
        · simp [strO]
        rw [strO_set (by omega)]
        refine ol_nil ?_
        refine sl_nil ?_
        refine cw_region ?_; refine ol_ev (ev_move rfl) rfl ?_; (refine ol_ev (ev_add rfl rfl ?_) rfl ?_; (constructor <;> omega)); refine ol_ev (ev_assign rfl) rfl ?_; refine ol_nil ?_
        refine ⟨(i + 1, ob, sp, ds ++ [t ++ [text[i]]], true), ⟨hx, by show (ds ++ [t ++ [text[i]]]).length ≤ i + 1; simp; omega, fun u hu => ?_, hw⟩, ⟨rfl, rfl, rfl, rfl, rfl, trivial⟩, ?_, by show text.length - (i + 1) < text.length - i; omega⟩
        · rcases List.mem_append.1 hu with hu | hu
          · have := hall u hu; show u.length ≤ i + 1; omega
          · simp only [List.mem_singleton] at hu; subst hu; show (t ++ [text[i]]).length ≤ i + 1; simp; omega
        · simp only [List.length_append, List.length_singleton]
  · rw [List.drop_of_length_le (by omega)] at hws
    have hts := hws.last
    subst hts
    refine cw_exit ?_; refine cw_seq ?_; refine cw_region ?_
    refine ol_ev (ev_loadS (cs := [.slice (some ⟨ob, 0, none⟩) ts.length (ts.length + sp.length), .int .i64 0]) rfl rfl m0 rfl) rfl ?_
    refine ol_storeS (o := ⟨[.slice none 0 0, .int .i64 0], 41, (0, 0)⟩) (cs := [.slice (some ⟨ob, 0, none⟩) ts.length (ts.length + sp.length), .int .i64 0]) rfl rfl rfl (by simp [Value.oneCell']) u2 rfl rfl ?_
    refine ol_nil ?_; refine cw_ret ?_
    exact ⟨_, resC (cs := [.slice (some ⟨ob, 0, none⟩) ts.length (ts.length + sp.length), .int .i64 0]) rfl rfl rfl m2 rfl, _, rfl, ob, _, sp, rfl, m1, Nat.le_add_right _ _⟩
end
end Go.HE
