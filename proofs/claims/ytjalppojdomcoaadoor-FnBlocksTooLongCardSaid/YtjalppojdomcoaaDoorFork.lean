/- Regions whose order is open, in which operations that turn memory stand in no order: every order is shown. No condition: these are lemmas of our own. -/
import Derived.Test.YtjalppojdomcoaaDoorFloat
set_option maxRecDepth 100000
namespace Go.HE
open Go.RowKit

/-- A tree of orders: an operation that only reads; one that turns memory; a choice. -/
inductive OT where
  | nil
  | fr (k : Nat) (r : OT)
  | ef (k : Nat) (r : OT)
  | alt (a b : OT)

def OT.len : OT → Nat
  | .nil => 0
  | .fr _ r => r.len + 1
  | .ef _ r => r.len + 1
  | .alt a _ => a.len
def OT.heads : OT → List Nat
  | .ef k _ => [k]
  | .alt a b => a.heads ++ b.heads
  | _ => []
/-- Is the tree well formed at a choice: each branch begins with an operation that turns memory, all are as long. -/
def OT.evenB : OT → Nat → Bool
  | .ef _ r, n => decide (r.len + 1 = n)
  | .alt a b, n => a.evenB n && b.evenB n
  | _, _ => false

/-- The tree covers every order (c: within a choice). -/
def lexT (md : Region.Mode) (ops : Array Oper) (F : Array Bool → Bool) : OT → Bool → Array Bool → Bool
  | .nil, c, listed => !c && F listed
  | .fr k r, c, listed => !c && (Region.ready md ops listed).contains k && Region.free md ops listed k && lexT md ops F r false (listed.setIfInBounds k true)
  | .ef k r, c, listed => (c || decide (Region.ready md ops listed = [k])) && lexT md ops F r false (listed.setIfInBounds k true)
  | .alt a b, c, listed => (c || (!(Region.ready md ops listed).isEmpty && ((Region.ready md ops listed).all fun i => (OT.heads (.alt a b)).contains i) && OT.evenB (.alt a b) a.len)) && lexT md ops F a true listed && lexT md ops F b true listed

section
variable {P : Program} {ops : Array Oper} {md : Region.Mode} {Q : Exit → Act → World → Prop} {Cls : World → Prop}
def FTs (P : Program) (ops : Array Oper) (Q : Exit → Act → World → Prop) (Cls : World → Prop) (N : Act → World → Prop) : OT → Act → World → Prop
  | .nil, a, w => Cls w ∧ N a w
  | .fr k r, a, w => Cls w ∧ ∃ o v, ops[k]? = some o ∧ RobAt P ops Cls o v a ∧ FTs P ops Q Cls N r (a.put o.dst v) w
  | .ef k r, a, w => Cls w ∧ wpOp P ops Q k (FTs P ops Q Cls N r) a w
  | .alt p q, a, w => FTs P ops Q Cls N p a w ∧ FTs P ops Q Cls N q a w

theorem FTs.cls {N : Act → World → Prop} : ∀ {t : OT} {a : Act} {w : World}, FTs P ops Q Cls N t a w → Cls w
  | .nil, _, _, h => h.1
  | .fr _ _, _, _, h => h.1
  | .ef _ _, _, _, h => h.1
  | .alt _ _, _, _, h => h.1.cls

theorem anyG_of_FTs {F : Array Bool → Bool} {N : Act → World → Prop} (hsel : Region.noSelect ops = true) (hQ : ∀ c a w, ¬ Q (.panic c) a w) (hO : ∀ a w, ¬ Q .outgrown a w)
    (hF : ∀ listed, F listed = true → ∀ j ∈ Region.ready md ops listed, some j = none) :
    ∀ (t : OT) (listed : Array Bool) (a : Act) (w : World), FTs P ops Q Cls N t a w →
      (lexT md ops F t false listed = true → AnyG P md ops Q Cls none (fun listed a w => F listed = true ∧ N a w) t.len listed a w) ∧
      (lexT md ops F t true listed = true → ∀ n, t.evenB (n + 1) = true → ∀ i ∈ t.heads, wpOp P ops Q i (AnyG P md ops Q Cls none (fun listed a w => F listed = true ∧ N a w) n (listed.setIfInBounds i true)) a w)
  | .nil, listed, a, w, h => ⟨fun hB => ⟨h.1, by simpa [lexT] using hB, h.2⟩, fun _ n hn => by simp [OT.evenB] at hn⟩
  | .fr k r, listed, a, w, h => by
    refine ⟨fun hB => ?_, fun _ n hn => by simp [OT.evenB] at hn⟩
    simp only [lexT, Bool.not_false, Bool.true_and, Bool.and_eq_true] at hB
    obtain ⟨⟨hr, hf⟩, hB'⟩ := hB
    obtain ⟨hw, o, v, ho, hy, hrest⟩ := h
    exact AnyG.first ho hsel hQ hO (fun listed a w hL => hF listed hL.1) (fun _ j hx => by cases hx) r.len listed a w (Region.free_spec ho hf) (by simpa using hr) hy hw
      ((anyG_of_FTs hsel hQ hO hF r _ _ _ hrest).1 hB')
  | .ef k r, listed, a, w, h => by
    refine ⟨fun hB => ?_, fun hB n hn i hi => ?_⟩
    · simp only [lexT, Bool.false_or, Bool.and_eq_true, decide_eq_true_eq] at hB
      obtain ⟨hr, hB'⟩ := hB
      refine ⟨h.1, by rw [hr]; simp, fun i hi => ?_⟩
      rw [hr] at hi
      have : i = k := by simpa using hi
      subst this
      exact ⟨by simp, wpOp_mono (fun a' w' h' => (anyG_of_FTs hsel hQ hO hF r _ a' w' h').1 hB') h.2⟩
    · simp only [lexT, Bool.true_or, Bool.true_and] at hB
      have : i = k := by simpa [OT.heads] using hi
      subst this
      have hn' : r.len = n := by simpa [OT.evenB] using hn
      exact wpOp_mono (fun a' w' h' => hn' ▸ (anyG_of_FTs hsel hQ hO hF r _ a' w' h').1 hB) h.2
  | .alt p q, listed, a, w, h => by
    have hp := anyG_of_FTs hsel hQ hO hF p listed a w h.1
    have hq := anyG_of_FTs hsel hQ hO hF q listed a w h.2
    have both : lexT md ops F p true listed = true → lexT md ops F q true listed = true → ∀ n, OT.evenB (.alt p q) (n + 1) = true → ∀ i ∈ OT.heads (.alt p q), wpOp P ops Q i (AnyG P md ops Q Cls none (fun listed a w => F listed = true ∧ N a w) n (listed.setIfInBounds i true)) a w := by
      intro h1 h2 n hn i hi
      simp only [OT.evenB, Bool.and_eq_true] at hn
      rcases List.mem_append.1 hi with hi | hi
      · exact hp.2 h1 n hn.1 i hi
      · exact hq.2 h2 n hn.2 i hi
    refine ⟨fun hB => ?_, fun hB n hn i hi => ?_⟩
    · simp only [lexT, Bool.false_or, Bool.and_eq_true] at hB
      obtain ⟨⟨⟨⟨he, hall⟩, hev⟩, h1⟩, h2⟩ := hB
      have hlen : ∃ n, p.len = n + 1 := by
        cases hpl : p.len with
        | succ n => exact ⟨n, rfl⟩
        | zero =>
          exfalso
          rw [hpl] at hev
          have : ∀ t : OT, t.evenB 0 = false := by
            intro t
            induction t with
            | nil => rfl
            | fr => rfl
            | ef => simp [OT.evenB]
            | alt a b iha _ => simp [OT.evenB, iha]
          rw [this] at hev
          cases hev
      obtain ⟨n, hn⟩ := hlen
      show AnyG P md ops Q Cls none _ p.len listed a w
      rw [hn] at hev ⊢
      refine ⟨h.1.cls, by simpa using he, fun i hi => ⟨by simp, both h1 h2 n hev i ?_⟩⟩
      have := List.all_eq_true.1 hall i hi
      simpa using this
    · simp only [lexT, Bool.true_or, Bool.true_and, Bool.and_eq_true] at hB
      exact both hB.1 hB.2 n hn i hi
end

/-! In symbolic states. -/
structure FT (P : Program) (C : Cx) (ops : Array Oper) (K : Heap) (Q : Exit → Env → Heap → Prop) (N : Env → Heap → Prop) (t : OT) (l : Env) (H : Heap) : Prop where
  out : ∀ a w, Sat C.n l a → C.st H w → C.st K w → FTs P ops (lift C Q) (C.st K) (fun a' w' => ∃ l' H', Sat C.n l' a' ∧ C.st H' w' ∧ N l' H') t a w

section
variable {P : Program} {C : Cx} {ops : Array Oper} {K : Heap} {Q : Exit → Env → Heap → Prop} {N : Env → Heap → Prop} {r p q : OT} {l : Env} {H : Heap}
variable {o : Op} {ty : TypeId} {pos : String} {af : Array Edge} {v : Value} {d k : Nat}

theorem ft_nil (h : N l H) : FT P C ops K Q N .nil l H := ⟨fun _ _ hs hw hk => ⟨hk, l, H, hs, hw, h⟩⟩
theorem ft_alt (h1 : FT P C ops K Q N p l H) (h2 : FT P C ops K Q N q l H) : FT P C ops K Q N (.alt p q) l H := ⟨fun a w hs hw hk => ⟨h1.out a w hs hw hk, h2.out a w hs hw hk⟩⟩
theorem ft_ev (ho : ops[k]? = some ⟨some d, o, ty, pos, af, none⟩) (h : Ev P C K l o ty v) (hd : Nat.ble (d + 1) C.n = true) (n : FT P C ops K Q N r ((d, v) :: l) H) : FT P C ops K Q N (.fr k r) l H :=
  ⟨fun a w hs hw hk => ⟨hk, _, v, ho, .inl ⟨rfl, fun w' hw' => h.out a w' _ _ _ _ hs hw'⟩, n.out _ w (hs.put (Nat.le_of_ble_eq_true hd) v) hw hk⟩⟩
theorem ft_x {om : Oper} (ho : ops[k]? = some om) (h : OL P C ops [om] l H (thenQ (fun l2 H2 => (∀ p ∈ K, p ∈ H2) ∧ FT P C ops K Q N r l2 H2) Q)) : FT P C ops K Q N (.ef k r) l H := by
  refine ⟨fun a w hs hw hk => ⟨hk, ?_⟩⟩
  have h1 := h.out a w hs hw
  have next : ∀ (a2 : Act) (w2 : World), lift C (thenQ (fun l2 H2 => (∀ p ∈ K, p ∈ H2) ∧ FT P C ops K Q N r l2 H2) Q) .normal a2 w2 → FTs P ops (lift C Q) (C.st K) (fun a' w' => ∃ l' H', Sat C.n l' a' ∧ C.st H' w' ∧ N l' H') r a2 w2 := by
    rintro a2 w2 ⟨l2, H2, s2, t2, hsub, hfl⟩
    exact hfl.out a2 w2 s2 t2 (St.subset t2 hsub hk.own.nodup)
  unfold wpOp
  rw [ho]
  simp only
  unfold wpList at h1
  split <;> rename_i hwant
  · rw [if_pos hwant] at h1
    rcases h1 with h1 | ⟨hask, a0, w0, x1⟩
    · exact .inl (Oper.wp_mono2 (fun a2 w2 hk2 => next a2 w2 hk2) (fun c a2 w2 hq => hq) (fun a2 w2 hq => hq) h1)
    · exact .inr ⟨hask, a0, w0, x1⟩
  · rw [if_neg hwant] at h1
    exact next _ _ h1

/-- The whole region in the orders of a tree. -/
theorem cw_fork {id : Nat} {os : List Oper} (t : OT) (K : Heap) (hm : P.follows .mixedOrders = true) (hB : (Region.noSelect os.toArray && decide (t.len = os.toArray.size) && lexT .any os.toArray (noneB .any os.toArray) t false (Array.replicate os.toArray.size false)) = true)
    (hK : K.Sublist H) (hQ : ∀ c l H, ¬ Q (.panic c) l H) (hO : ∀ l H, ¬ Q .outgrown l H) (h : FT P C os.toArray K Q (fun l' H' => Q .normal l' H') t l H) : CW P C (.region id os.toArray true) l H Q := by
  refine ⟨fun a w hs hw => ?_⟩
  simp only [Bool.and_eq_true, decide_eq_true_eq] at hB
  obtain ⟨⟨hsel, hlen⟩, hlex⟩ := hB
  have hw' : C.st H { w with drawn := w.drawn + 1 } := St.drew hw
  have hk' : C.st K { w with drawn := w.drawn + 1 } := St.less hw' hK
  refine wp_region_any hm ?_
  have hfl := h.out a _ hs hw' hk'
  have hG := (anyG_of_FTs (md := .any) (F := noneB .any os.toArray) hsel (fun c a w ⟨l, H, _, _, hq⟩ => hQ c l H hq) (fun a w ⟨l, H, _, _, hq⟩ => hO l H hq)
    (fun listed hl j hj => by simp only [noneB, List.isEmpty_iff] at hl; rw [hl] at hj; cases hj) t _ a _ hfl).1 hlex
  have := anyG_sound (g := 0) (Q := lift C Q) (fun listed a w ⟨hl, l', H', s1, s2, s3⟩ => ⟨by simpa [noneB] using hl, l', H', s1, s2, s3⟩) _ _ _ _ hG
  rw [hlen] at this
  exact this
end
end Go.HE
