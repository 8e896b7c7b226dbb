/- The errors as start-up lays them, out of a row's list. Condition: the row's own. -/
import Derived.Test.YtjalppojdomcoaaDoorErr
import Derived.Test.YtjalppojdomcoaaDoorLay
import Derived.Stop.LaidTwo
set_option maxRecDepth 100000
set_option maxHeartbeats 1000000
namespace Go.HE
open Go Go.RowKit Go.ChangeShapes Go.Proofs Go.Proofs.YtjalppojdomcoaaDoor

def sent (text : List UInt8) : DataW Unit := .iface "*errors.errorString" (.ptr (.agg [.lit (.string text)]))

theorem laid_sents {P : Program} {W : World} {ti tp te ts : TypeId} {ms : Array (String × TypeId)} {f : Field}
    (hi : P.underlying ti = some (.interface ms)) (hrow : ∀ u, P.typeName? 3 u = some "*errors.errorString" → u = tp)
    (hp : P.underlying tp = some (.pointer te)) (he : P.underlying te = some (.struct #[f])) (hft : f.type = ts) (hfo : f.offset = 0) (hs : P.underlying ts = some .string) (hc : P.cellsOf te = 1) (hcs : P.cellsOf ts = 1) :
    ∀ (l : List (String × List UInt8)) (ps : List MemPlace), DataW.LaidVars P W (l.map fun x => (x.1, sent x.2)) ps → ps.Nodup →
      (∀ b off, MemPlace.cell b off ∈ ps → (∃ c t, W.heap[b]? = some (.cells c t (0, 0))) ∧ ∀ u v, W.cell? ⟨b, off, none⟩ = some (.iface u v) → Value.okWide P W .any 0 u v) →
      (∀ x ∈ l, ∀ g, P.globalNamed x.1 = some g → (P.globals[g]?).map (·.type) = some ti) →
      ∃ E : Nat → Addr, (∀ i n text, l[i]? = some (n, text) → W.var? P n = some #[.iface tp (.pointer (some (E i)))] ∧ MemPlace.cell (E i).block (E i).off ∈ ps ∧ ∃ c t, W.heap[(E i).block]? = some (.cells c t (0, 0))) ∧
        ∀ i j, i < l.length → j < l.length → i ≠ j → E i ≠ E j
  | [], ps, _, _, _, _ => ⟨fun _ => ⟨0, 0, none⟩, fun i n t h => by simp at h, fun i j h => by simp at h⟩
  | (n, text) :: l, ps, hv, hnd, hrows, hty => by
    obtain ⟨g, t, cs, fuel, p, q, hg, ht, hvar, hd, hq, e⟩ := hv
    have ht2 := hty (n, text) List.mem_cons_self g hg
    obtain rfl := Option.some.inj (ht2.symm.trans ht)
    subst e
    obtain ⟨l0⟩ := cs
    have ok0 : ∀ u v, l0 = [.iface u v] → Value.okWide P W .any 0 u v := fun u v e => by
      subst e
      exact (hrows g 0 (by simp [MemPlace.row])).2 u v (by simpa using World.var?_cell hg hvar 0)
    obtain ⟨a0, s0, rfl, hc0, hs0, hz0, rfl⟩ := errorString_of_trod hi hrow hp he hft hfo hs hc hcs hd ok0
    have hnd' := List.nodup_append.1 hnd
    obtain ⟨E, h1, h2⟩ := laid_sents hi hrow hp he hft hfo hs hc hcs l q hq hnd'.2.1 (fun b off hm => hrows b off (List.mem_append_right _ hm)) (fun x hx => hty x (List.mem_cons_of_mem _ hx))
    refine ⟨fun i => match i with | 0 => a0 | i + 1 => E i, ?_, ?_⟩
    · intro i n' text' hi'
      cases i with
      | zero =>
        simp only [List.getElem?_cons_zero, Option.some.injEq, Prod.mk.injEq] at hi'
        obtain ⟨rfl, rfl⟩ := hi'
        exact ⟨hvar, by simp [MemPlace.row], (hrows a0.block a0.off (by simp [MemPlace.row])).1⟩
      | succ i =>
        obtain ⟨k1, k2, k3⟩ := h1 i n' text' (by simpa using hi')
        exact ⟨k1, List.mem_append_right _ k2, k3⟩
    · have key : ∀ j, j < l.length → a0 ≠ E j := fun j hj e => by
        have := (h1 j l[j].1 l[j].2 (by simp [hj])).2.1
        rw [← e] at this
        exact hnd'.2.2 _ (by simp [MemPlace.row]) _ this rfl
      intro i j hi' hj' hne
      cases i with
      | zero =>
        cases j with
        | zero => exact absurd rfl hne
        | succ j => exact key j (by simpa using hj')
      | succ i =>
        cases j with
        | zero => exact fun e => key i (by simpa using hi') e.symm
        | succ j => exact h2 i j (by simpa using hi') (by simpa using hj') (by omega)

def nine : List (String × List UInt8) := [("io.EOF", [69, 79, 70]), ("io.ErrNoProgress", [109, 117, 108, 116, 105, 112, 108, 101, 32, 82, 101, 97, 100, 32, 99, 97, 108, 108, 115, 32, 114, 101, 116, 117, 114, 110, 32, 110, 111, 32, 100, 97, 116, 97, 32, 111, 114, 32, 101, 114, 114, 111, 114]), ("bufio.ErrTooLong", [98, 117, 102, 105, 111, 46, 83, 99, 97, 110, 110, 101, 114, 58, 32, 116, 111, 107, 101, 110, 32, 116, 111, 111, 32, 108, 111, 110, 103]), ("bufio.ErrNegativeAdvance", [98, 117, 102, 105, 111, 46, 83, 99, 97, 110, 110, 101, 114, 58, 32, 83, 112, 108, 105, 116, 70, 117, 110, 99, 32, 114, 101, 116, 117, 114, 110, 115, 32, 110, 101, 103, 97, 116, 105, 118, 101, 32, 97, 100, 118, 97, 110, 99, 101, 32, 99, 111, 117, 110, 116]), ("bufio.ErrAdvanceTooFar", [98, 117, 102, 105, 111, 46, 83, 99, 97, 110, 110, 101, 114, 58, 32, 83, 112, 108, 105, 116, 70, 117, 110, 99, 32, 114, 101, 116, 117, 114, 110, 115, 32, 97, 100, 118, 97, 110, 99, 101, 32, 99, 111, 117, 110, 116, 32, 98, 101, 121, 111, 110, 100, 32, 105, 110, 112, 117, 116]), ("bufio.ErrBadReadCount", [98, 117, 102, 105, 111, 46, 83, 99, 97, 110, 110, 101, 114, 58, 32, 82, 101, 97, 100, 32, 114, 101, 116, 117, 114, 110, 101, 100, 32, 105, 109, 112, 111, 115, 115, 105, 98, 108, 101, 32, 99, 111, 117, 110, 116]), ("bufio.ErrFinalToken", [102, 105, 110, 97, 108, 32, 116, 111, 107, 101, 110]), ("lib-heddleeye/impl.errSplit", [115, 112, 108, 105, 116]), ("lib-heddleeye/impl.errRead", [114, 101, 97, 100])]

theorem star : "*" ++ "errors.errorString" = "*errors.errorString" := by decide
theorem errRow (u : TypeId) (h : Tryd.prog.typeName? 3 u = some "*errors.errorString") : u = 92 :=
  typeName_ptr_named (nm := "errors.errorString") (by rw [star]; kernel_rfl) (by kernel_rfl) (by decide) u (by rw [star]; exact h)

theorem errs_of {W : World} (h : laidMet Tryd.prog (nine.map fun x => (x.1, sent x.2)) W) : ∃ E, Errs W E := by
  obtain ⟨ps, hv, hnd, hrows⟩ := h
  obtain ⟨E, h1, h2⟩ := laid_sents (ti := 49) (te := 117) (ts := 9) Tryd.underlying49 errRow Tryd.underlying92 Tryd.underlying117 rfl rfl Tryd.underlying9 (by kernel_rfl) (by kernel_rfl) nine ps hv hnd hrows (by
    have hall : (nine.all fun x => match Tryd.prog.globalNamed x.1 with | some g => (Tryd.prog.globals[g]?).map (·.type) == some 49 | none => true) = true := by kernel_rfl
    intro x hx g hg
    have := List.all_eq_true.1 hall x hx
    rw [hg] at this
    simpa using this)
  have cell : ∀ (i : Nat) (n : String) (text : List UInt8) (g : Nat), nine[i]? = some (n, text) → Tryd.prog.globalNamed n = some g → W.cell? ⟨g, 0, none⟩ = some (errv E i) := fun i n text g hi hg => by
    have := World.var?_cell hg (h1 i n text hi).1 0
    simpa [errv] using this
  refine ⟨E, cell 0 _ _ _ rfl (by kernel_rfl), cell 1 _ _ _ rfl (by kernel_rfl), cell 2 _ _ _ rfl (by kernel_rfl), cell 3 _ _ _ rfl (by kernel_rfl), cell 4 _ _ _ rfl (by kernel_rfl), cell 5 _ _ _ rfl (by kernel_rfl), cell 6 _ _ _ rfl (by kernel_rfl), cell 7 _ _ _ rfl (by kernel_rfl), cell 8 _ _ _ rfl (by kernel_rfl), fun c hc => ?_, fun c d hc hd hne => h2 c d hc hd hne⟩
  have hc' : c < nine.length := hc
  exact (h1 c nine[c].1 nine[c].2 (by simp [hc'])).2.2
end Go.HE
