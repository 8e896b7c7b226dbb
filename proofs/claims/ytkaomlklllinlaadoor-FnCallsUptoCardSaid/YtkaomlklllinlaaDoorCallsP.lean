/- Calls of a scanner in any order: plain mathematics of the model of the scanner. Conditions: those of the lemmas. -/
import Derived.Test.YtkaomlklllinlaaDoorLayC
set_option maxRecDepth 100000
set_option maxHeartbeats 1000000
namespace Go.HE
section
variable {σ : Type} {step : σ → List UInt8 → Bool → Ans σ} {Q : σ → List UInt8 → Oc σ → Prop}
theorem readM_rest (ps : List Int) (m : M σ) : restOf (readM ps m) = restOf m := by
  unfold restOf readM rdNext
  simp only
  rw [List.append_assoc, ← List.drop_drop, List.take_append_drop]
theorem readM_end (ps : List Int) (m : M σ) (h : (readM ps m).err ≠ none) : (readM ps m).rd.text.drop (readM ps m).rd.at' = [] := by
  have h1 : rdErr m.rd ps (room m) ≠ none := h
  unfold rdErr at h1
  split at h1
  · exact absurd rfl h1
  · rename_i hh
    apply List.drop_of_length_le
    show m.rd.text.length ≤ m.rd.at' + rdN m.rd ps (room m)
    have : ¬ m.rd.at' + rdN m.rd ps (room m) < m.rd.text.length := fun h => hh (.inl h)
    omega
/-- Where nothing is left, a call of Scan leaves nothing, and nothing stays left. -/
theorem stop_scans (hf : Fits step Q) (ps : List Int) : ∀ (n : Nat) (m : M σ) (e : End σ), Scans step ps n m e → (m.err ≠ none → m.rd.text.drop m.rd.at' = []) → Q m.s (restOf m) .stop → e.m.err ≠ some 2 → e.m.data = [] ∧ Q e.m.s [] .stop
  | 0, _, _, h, _, _, _ => h.elim
  | n + 1, m, e, h, he, hq, h2 => by
    have hrest : ∀ m1 : M σ, m1.err = none → Rest ps (Scans step ps n) m1 e → Q m1.s (restOf m1) .stop → e.m.data = [] ∧ Q e.m.s [] .stop := fun m1 e1 h1 q1 => by
      have hsh : (shiftM m1).rd = m1.rd ∧ (shiftM m1).s = m1.s ∧ (shiftM m1).data = m1.data := by unfold shiftM; split <;> exact ⟨rfl, rfl, rfl⟩
      have hr1 : restOf (shiftM m1) = restOf m1 := by unfold restOf; rw [hsh.1, hsh.2.2]
      unfold Rest at h1
      rw [if_neg (by simp [e1])] at h1
      split at h1
      · split at h1
        · exact absurd (by rw [h1.2.2]; rfl) h2
        · refine stop_scans hf ps n _ e h1.2 (readM_end ps _) ?_ h2
          rw [readM_rest]
          show Q (shiftM m1).s (restOf (shiftM m1)) .stop
          rw [hr1, hsh.2.1]; exact q1
      · refine stop_scans hf ps n _ e h1 (readM_end ps _) ?_ h2
        rw [readM_rest]
        show Q (shiftM m1).s (restOf (shiftM m1)) .stop
        rw [hr1, hsh.2.1]; exact q1
    unfold Scans at h
    split at h
    · rename_i hc
      have hA := hf m.s m.data (m.rd.text.drop m.rd.at') .stop (decide (m.err ≠ none)) hq (fun hd => he (of_decide_eq_true hd)) (by rcases hc with hc | hc; exact .inl hc; exact .inr (decide_eq_true hc))
      generalize step m.s m.data (decide (m.err ≠ none)) = a at h hA
      cases hA with
      | tok t h1 h2 h3 => cases h3
      | fail h1 h2 h3 => cases h3
      | neg h1 h2 h3 h4 => cases h4
      | far h1 h2 h3 h4 => cases h4
      | fin h1 h3 => cases h3
      | stop a0 a1 a2 a3 a4 a5 a6 =>
        rw [a1] at h
        simp only at h
        rw [if_neg (by omega), if_neg (by omega), a2] at h
        simp only at h
        unfold Rest at h
        rw [if_pos (of_decide_eq_true a0)] at h
        rw [h.2.2]
        exact ⟨rfl, a5⟩
      | more a0 a1 a2 a3 a4 a5 =>
        rw [a1] at h
        simp only at h
        rw [if_neg (by omega), if_neg (by omega), a2] at h
        exact hrest _ (by simpa using of_decide_eq_false a0) h a5
    · rename_i hc
      exact hrest m (by by_cases h0 : m.err = none; exact h0; exact absurd (.inr h0) hc) h hq
/-- Behind an error a call of Scan ends in one round, and an error stays. -/
theorem tot_scans (hso : StepOk step) (ps : List Int) (m : M σ) (he : m.err ≠ none) : ∃ e, Scans step ps 1 m e ∧ e.m.err ≠ none := by
  have hd : decide (m.err ≠ none) = true := decide_eq_true he
  have hset : ∀ c, setE m.err c ≠ none := fun c => by
    unfold setE; split
    · simp
    · exact he
  have ht := hso.tok m.s m.data true
  have hr := hso.err m.s m.data true
  generalize ha : step m.s m.data true = a at ht hr
  cases hae : a.err with
  | some c =>
    by_cases h6 : c = 6
    · refine ⟨⟨a.tok.isSome, a.tok, true, { m with s := a.st }⟩, ?_, he⟩
      unfold Scans
      rw [if_pos (.inr he), hd, ha, hae]
      simp only
      rw [if_pos h6]
      refine ⟨?_, ?_, ?_, ?_⟩ <;> first | trivial | rfl
    · refine ⟨⟨false, none, false, { m with s := a.st, err := setE m.err c }⟩, ?_, hset c⟩
      unfold Scans
      rw [if_pos (.inr he), hd, ha, hae]
      simp only
      rw [if_neg h6]
      refine ⟨?_, ?_, ?_, ?_⟩ <;> first | trivial | rfl | skip
      rcases hr c hae with rfl | rfl <;> omega
  | none =>
    by_cases hneg : a.adv < 0
    · refine ⟨⟨false, none, false, { m with s := a.st, err := setE m.err 3 }⟩, ?_, hset 3⟩
      unfold Scans
      rw [if_pos (.inr he), hd, ha, hae]
      simp only
      rw [if_pos hneg]
      refine ⟨?_, ?_, ?_⟩ <;> first | trivial | rfl
    by_cases hfar : (m.data.length : Int) < a.adv
    · refine ⟨⟨false, none, false, { m with s := a.st, err := setE m.err 4 }⟩, ?_, hset 4⟩
      unfold Scans
      rw [if_pos (.inr he), hd, ha, hae]
      simp only
      rw [if_neg hneg, if_pos hfar]
      refine ⟨?_, ?_, ?_⟩ <;> first | trivial | rfl
    cases hat : a.tok with
    | some t =>
      have hp : 0 < a.adv := by
        rcases (ht t (.inr rfl) hat).1 with ⟨_, h⟩ | h
        · exact h
        · rw [hae] at h; cases h
      refine ⟨⟨true, some t, false, { m with s := a.st, data := m.data.drop a.adv.toNat, start := m.start + a.adv.toNat, emp := 0 }⟩, ?_, he⟩
      unfold Scans
      rw [if_pos (.inr he), hd, ha, hae]
      simp only
      rw [if_neg hneg, if_neg hfar, hat]
      simp only
      rw [if_pos (.inr hp)]
      refine ⟨?_, ?_, ?_, ?_⟩ <;> first | trivial | rfl
    | none =>
      refine ⟨⟨false, none, false, { m with s := a.st, data := [], start := 0 }⟩, ?_, he⟩
      unfold Scans
      rw [if_pos (.inr he), hd, ha, hae]
      simp only
      rw [if_neg hneg, if_neg hfar, hat]
      simp only
      unfold Rest
      rw [if_pos he]
      refine ⟨?_, ?_, ?_⟩ <;> first | trivial | rfl

/-- Where a scanner stands among the tokens: on the way; at a last token; at the end, in one of three ways; behind an error and a further call of Scan. -/
inductive Ph (Q : σ → List UInt8 → Oc σ → Prop) (L : Nat) (ts : List (List UInt8)) (err : Option Nat) : M σ → Bool → Option (List UInt8) → Nat → Bool → Bool → Prop where
  | go {m kt told} : MI L m → m.rd.brk = false → Run (QL Q L) m.s (restOf m) (ts.drop told) err → told ≤ ts.length → (0 < told → kt = ts[told - 1]?) → Ph Q L ts err m false kt told false false
  | last {m kt} : (m.err = none ∨ m.err = some 0) → err = none → kt = ts[ts.length - 1]? → Ph Q L ts err m true kt ts.length false false
  | fin {m kt told} : (m.err = none ∨ m.err = some 0) → err = none → Ph Q L ts err m true kt told true false
  | stop {m kt told} : m.err = some 0 → m.data = [] → Q m.s [] .stop → err = none → Ph Q L ts err m false kt told true false
  | bad {m kt told c} : m.err = some c → err = some c → Ph Q L ts err m false kt told true false
  | dead {m dn kt told over} : m.err ≠ none → Ph Q L ts err m dn kt told over true
/-- What a call of Scan makes of where a scanner stands. -/
def Nx (ts : List (List UInt8)) (err : Option Nat) (told : Nat) (over dead b : Bool) (told' : Nat) (over' dead' : Bool) : Prop :=
  if dead = true then dead' = true
  else if over = true then (if err = none then b = false ∧ told' = told ∧ over' = true ∧ dead' = false else dead' = true)
  else dead' = false ∧ if told < ts.length then b = true ∧ told' = told + 1 ∧ over' = false else b = false ∧ told' = told ∧ over' = true
theorem ph_done {L : Nat} {ts : List (List UInt8)} {err : Option Nat} {m : M σ} {kt : Option (List UInt8)} {told : Nat} {over dead : Bool} (h : Ph Q L ts err m true kt told over dead) : ∃ told' over' dead', Ph Q L ts err m true none told' over' dead' ∧ Nx ts err told over dead false told' over' dead' := by
  cases h with
  | last h1 h2 h3 =>
    refine ⟨ts.length, true, false, .fin h1 h2, ?_⟩
    unfold Nx
    rw [if_neg (by simp), if_neg (by simp), if_neg (by omega)]
    exact ⟨rfl, rfl, rfl, rfl⟩
  | fin h1 h2 =>
    refine ⟨told, true, false, .fin h1 h2, ?_⟩
    unfold Nx
    rw [if_neg (by simp), if_pos rfl, if_pos h2]
    exact ⟨rfl, rfl, rfl, rfl⟩
  | dead h1 => exact ⟨told, over, true, .dead h1, by unfold Nx; rw [if_pos rfl]⟩
theorem ph_err {L : Nat} {ts : List (List UInt8)} {err : Option Nat} (hok : OkE err) {m : M σ} {dn : Bool} {kt : Option (List UInt8)} {told : Nat} {over : Bool} (h : Ph Q L ts err m dn kt told over false) : (if m.err = some 0 then none else m.err) = if over = true then err else none := by
  have hz : ∀ m : M σ, (m.err = none ∨ m.err = some 0) → (if m.err = some 0 then none else m.err) = none := fun m h => by
    rcases h with h | h <;> rw [h] <;> rfl
  cases h with
  | go h1 h2 h3 h4 h5 =>
    rw [if_neg (show ¬ false = true by simp)]
    refine hz m ?_
    rcases h1.err with h | ⟨h, _⟩
    · exact .inl h
    · right; rw [h]; unfold endE; rw [h2]; rfl
  | last h1 h2 h3 => rw [if_neg (show ¬ false = true by simp)]; exact hz m h1
  | fin h1 h2 => rw [if_pos rfl, h2]; exact hz m h1
  | stop h1 h2 h3 h4 => rw [if_pos rfl, h4]; exact hz m (.inr h1)
  | bad h1 h2 =>
    rw [if_pos rfl, h1, ← h2, if_neg hok.ne0]
theorem ph_tok {L : Nat} {ts : List (List UInt8)} {err : Option Nat} {m : M σ} {dn : Bool} {kt : Option (List UInt8)} {told : Nat} (h : Ph Q L ts err m dn kt told false false) (h0 : 0 < told) : kt = ts[told - 1]? := by
  cases h with
  | go _ _ _ _ h5 => exact h5 h0
  | last _ _ h3 => exact h3
theorem ph_lt {L : Nat} {ts : List (List UInt8)} {err : Option Nat} {m : M σ} {dn : Bool} {kt : Option (List UInt8)} {told : Nat} (h : Ph Q L ts err m dn kt told false false) : told ≤ ts.length := by
  cases h with
  | go _ _ _ h4 _ => exact h4
  | last _ _ _ => exact Nat.le_refl _
theorem ph_scan (hso : StepOk step) (hf : Fits step Q) {L : Nat} (hL : 0 < L) (ps : List Int) {ts : List (List UInt8)} {err : Option Nat} {m : M σ} {kt : Option (List UInt8)} {told : Nat} {over dead : Bool} (h : Ph Q L ts err m false kt told over dead) :
    ∃ k e told' over' dead', Scans step ps k m e ∧ Ph Q L ts err e.m e.dn (if e.b = true then e.tok else none) told' over' dead' ∧ Nx ts err told over dead e.b told' over' dead' := by
  cases h with
  | go hm hb hr htl hk =>
    have hz : endE m.rd = 0 := by unfold endE; rw [hb]; rfl
    have hgood := fits_good (L := L) hso hf hL
    generalize hus : ts.drop told = us at hr
    generalize hr0 : restOf m = r at hr
    generalize hs0 : m.s = s at hr
    have hlen : us.length = ts.length - told := by rw [← hus, List.length_drop]
    cases hr with
    | @tok _ _ t s' r' us' _ hq hr' =>
      obtain ⟨k, e, h1, c1, c2, c3, c4, c5, c6, c7, c8⟩ := scans_of hgood ps _ _ m rfl hm (by rw [hs0, hr0]; exact hq)
      have hlt : told < ts.length := by simp only [List.length_cons] at hlen; omega
      rw [List.drop_eq_getElem_cons hlt] at hus
      injection hus with hu1 hu2
      refine ⟨k, e, told + 1, false, false, h1, ?_, ?_⟩
      · rw [c3, c1, if_pos rfl, c2]
        refine .go c6 (by rw [c7]; exact hb) (by rw [c4, c5, hu2]; exact hr') hlt fun _ => ?_
        rw [Nat.add_sub_cancel, List.getElem?_eq_getElem hlt, hu1]
      · unfold Nx
        rw [if_neg (by simp), if_neg (by simp), if_pos hlt]
        exact ⟨rfl, c1, rfl, rfl⟩
    | @fail _ _ c hq =>
      obtain ⟨k, e, h1, c1, c2, x, c3, c4⟩ := scans_of hgood ps _ _ m rfl hm (by rw [hs0, hr0]; exact hq)
      rw [hz] at c3
      have he : e.m.err = some c := by rw [c4]; rcases c3 with rfl | rfl <;> simp [setE]
      refine ⟨k, e, told, true, false, h1, ?_, ?_⟩
      · rw [c2]; exact .bad he rfl
      · unfold Nx
        simp only [List.length_nil] at hlen
        rw [if_neg (by simp), if_neg (by simp), if_neg (by omega)]
        exact ⟨rfl, c1, rfl, rfl⟩
    | @fin _ _ t hq =>
      obtain ⟨k, e, h1, c1, c2, c3, c4⟩ := scans_of hgood ps _ _ m rfl hm (by rw [hs0, hr0]; exact hq)
      rw [hz] at c4
      have hlt : told < ts.length := by simp only [List.length_cons] at hlen; omega
      have hlast : ts.length = told + 1 := by simp only [List.length_cons, List.length_nil] at hlen; omega
      rw [List.drop_eq_getElem_cons hlt] at hus
      injection hus with hu1 hu2
      refine ⟨k, e, ts.length, false, false, h1, ?_, ?_⟩
      · rw [c3, show e.b = true from c1, if_pos rfl, c2]
        refine .last c4 rfl ?_
        rw [hlast, Nat.add_sub_cancel, List.getElem?_eq_getElem hlt, hu1]
      · unfold Nx
        rw [if_neg (by simp), if_neg (by simp), if_pos hlt]
        exact ⟨rfl, c1, hlast, rfl⟩
    | fin0 hq =>
      obtain ⟨k, e, h1, c1, c2, c3, c4⟩ := scans_of hgood ps _ _ m rfl hm (by rw [hs0, hr0]; exact hq)
      rw [hz] at c4
      refine ⟨k, e, told, true, false, h1, ?_, ?_⟩
      · rw [c3]; exact .fin c4 rfl
      · unfold Nx
        simp only [List.length_nil] at hlen
        rw [if_neg (by simp), if_neg (by simp), if_neg (by omega)]
        exact ⟨rfl, c1, rfl, rfl⟩
    | stop hq =>
      obtain ⟨k, e, h1, c1, c2, c3⟩ := scans_of hgood ps _ _ m rfl hm (by rw [hs0, hr0]; exact hq)
      rw [hz] at c3
      obtain ⟨d1, d2⟩ := stop_scans hf ps k m e h1 (fun he => by
        rcases hm.err with h | ⟨_, h⟩
        · exact absurd h he
        · rw [h]; simp) (by rw [hs0, hr0]; exact hq.1) (by rw [c3]; simp)
      refine ⟨k, e, told, true, false, h1, ?_, ?_⟩
      · rw [c2]; exact .stop c3 d1 d2 rfl
      · unfold Nx
        simp only [List.length_nil] at hlen
        rw [if_neg (by simp), if_neg (by simp), if_neg (by omega)]
        exact ⟨rfl, c1, rfl, rfl⟩
  | stop he hd hq hn =>
    have hA := hf m.s [] [] .stop true hq (fun _ => rfl) (.inr rfl)
    generalize ha : step m.s [] true = a at hA
    cases hA with
    | tok t h1 h2 h3 => cases h3
    | fail h1 h2 h3 => cases h3
    | neg h1 h2 h3 h4 => cases h4
    | far h1 h2 h3 h4 => cases h4
    | fin h1 h3 => cases h3
    | more a0 _ _ _ _ _ => cases a0
    | stop a0 a1 a2 a3 a4 a5 a6 =>
      have hne : m.err ≠ none := by rw [he]; simp
      refine ⟨1, ⟨false, none, false, { m with s := a.st, data := [], start := 0 }⟩, told, true, false, ?_, .stop he rfl a5 hn, ?_⟩
      · unfold Scans
        rw [if_pos (.inr hne), decide_eq_true hne, hd, ha, a1]
        simp only
        rw [if_neg (by omega), if_neg (by omega), a2]
        simp only
        unfold Rest
        rw [if_pos hne]
        refine ⟨?_, ?_, ?_⟩ <;> first | trivial | rfl
      · unfold Nx
        rw [if_neg (by simp), if_pos rfl, if_pos hn]
        exact ⟨rfl, rfl, rfl, rfl⟩
  | bad he hn =>
    obtain ⟨e, h1, h2⟩ := tot_scans hso ps m (by rw [he]; simp)
    refine ⟨1, e, told, true, true, h1, .dead h2, ?_⟩
    unfold Nx
    rw [if_neg (by simp), if_pos rfl, if_neg (by rw [hn]; simp)]
  | dead he =>
    obtain ⟨e, h1, h2⟩ := tot_scans hso ps m he
    exact ⟨1, e, told, over, true, h1, .dead h2, by unfold Nx; rw [if_pos rfl]⟩
end

/-- What a call tells: whether there is a token, a text, an error's number. -/
structure Cl where
  ok : Bool
  text : List UInt8
  err : Int
/-- What the calls of a script may tell. -/
def OkC (ts : List (List UInt8)) (err : Option Nat) : Nat → Bool → List Int → List Cl → Prop
  | _, _, [], cs => cs = []
  | told, over, k :: ks, cs => ∃ c cs', cs = c :: cs' ∧
      if k = 1 ∨ k = 2 then c.ok = false ∧ c.err = 0 ∧ (0 < told → over = false → ts[told - 1]? = some c.text) ∧ OkC ts err told over ks cs'
      else if k = 3 then c.ok = false ∧ c.text = [] ∧ c.err = codeOf (if over = true then err else none) ∧ OkC ts err told over ks cs'
      else c.text = [] ∧ c.err = 0 ∧
        if over = true then (err = none → c.ok = false ∧ OkC ts err told over ks cs')
        else c.ok = decide (told < ts.length) ∧ OkC ts err (if told < ts.length then told + 1 else told) (decide (¬ told < ts.length)) ks cs'
end Go.HE
