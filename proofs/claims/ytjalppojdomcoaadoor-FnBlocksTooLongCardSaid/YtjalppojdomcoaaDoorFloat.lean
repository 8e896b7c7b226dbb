/- Regions whose order is open and in which several operations turn memory: reads that those do not touch may come first. No condition: these are lemmas of our own. -/
import Derived.Test.YtjalppojdomcoaaDoorMem
set_option maxRecDepth 100000
namespace Go.HE
open Go.RowKit

section
variable {P : Program} {ops : Array Oper} {md : Region.Mode} {Q : Exit → Act → World → Prop} {Cls : World → Prop}

/-- The operation yields v in every world of a class (or is not wanted). -/
def RobAt (P : Program) (ops : Array Oper) (Cls : World → Prop) (o : Oper) (v : Value) (a : Act) : Prop :=
  (Region.wanted o (yielded ops a.tmps) = true ∧ ∀ w, Cls w → (execOp a.eval o).run P w = .ok (.value v) w) ∨ (Region.wanted o (yielded ops a.tmps) = false ∧ v = undef)

theorem RobAt.wpOp {i : Nat} {o : Oper} {v : Value} {a : Act} {w : World} (hi : ops[i]? = some o) (hy : RobAt P ops Cls o v a) (hw : Cls w) {K : Act → World → Prop} (h : K (a.put o.dst v) w) : wpOp P ops Q i K a w := by
  unfold Go.wpOp
  simp only [hi]
  rcases hy with ⟨h1, h2⟩ | ⟨h1, rfl⟩
  · rw [h1, if_pos rfl]
    refine .inl ?_
    unfold Oper.wp
    rw [h2 w hw]
    exact h
  · rw [h1, if_neg (by simp)]
    exact h

theorem RobAt.of_same {o : Oper} {v : Value} {a a' : Act} (hy : RobAt P ops Cls o v a) (he : execOp a'.eval o = execOp a.eval o) (hw : Region.wanted o (yielded ops a'.tmps) = Region.wanted o (yielded ops a.tmps)) : RobAt P ops Cls o v a' := by
  unfold RobAt at *
  rw [he, hw]
  exact hy

/-- Such an operation goes ahead of another one that stands apart from it. -/
theorem rob_put {j : Nat} {oi oj : Oper} {v : Value} (hj : ops[j]? = some oj) (hap : oi.apart ops oj = true) (hsi : ∀ cs b, oi.op ≠ .select cs b) (hsj : ∀ cs b, oj.op ≠ .select cs b)
    (hQ : ∀ c a w, ¬ Q (.panic c) a w) (hO : ∀ a w, ¬ Q .outgrown a w) {K : Act → World → Prop} {a : Act} {w : World} (hy : RobAt P ops Cls oi v a) (h : wpOp P ops Q j K (a.put oi.dst v) w) :
    wpOp P ops Q j (fun a' w' => RobAt P ops Cls oi v a' ∧ K (a'.put oi.dst v) w') a w := by
  obtain ⟨h1, h2, h3⟩ := Oper.apart_spec hap
  have keep : ∀ (a : Act), RobAt P ops Cls oi v a → ∀ u, RobAt P ops Cls oi v (a.put oj.dst u) := fun a hy u =>
    hy.of_same (execOp_put oi hsi a oj.dst u h3) (wanted_put oi a oj.dst u h3)
  unfold wpOp at *
  simp only [hj] at *
  rw [wanted_put oj a oi.dst v h1] at h
  split <;> rename_i hw
  · rw [if_pos hw] at h
    rcases h with h | ⟨_, a0, w0, h⟩
    · refine .inl ?_
      unfold Oper.wp at *
      rw [execOp_put oj hsj a oi.dst v h1] at h
      generalize (execOp a.eval oj).run P w = r at *
      cases r with
      | ok n w' =>
        cases n <;> simp only [Oper.upon] at h ⊢
        case value u => exact ⟨keep a hy u, by rw [← Act.put_comm a v u h2]; exact h⟩
        case skip => exact ⟨keep a hy _, by rw [← Act.put_comm a v undef h2]; exact h⟩
        case defer d =>
          have hd : RobAt P ops Cls oi v { a with defers := d :: a.defers } := hy.of_same rfl rfl
          refine ⟨keep _ hd _, ?_⟩
          rw [← Act.put_comm _ v undef h2, ← Act.put_defers]
          exact h
        case enter f args =>
          refine Calls.mono h fun e w'' he => ?_
          cases e with
          | returned u => exact ⟨keep a hy u, by rw [← Act.put_comm a v u h2]; exact he⟩
          | panicked c => exact absurd he (hQ _ _ _)
          | outgrown => obtain ⟨a0, w0, he⟩ := he; exact absurd he (hO _ _)
        case row row args => exact Rows.mono h fun u w'' he => ⟨keep a hy u, by rw [← Act.put_comm a v u h2]; exact he⟩
      | halt x w' =>
        cases x <;> simp only [Oper.upon] at h ⊢
        case panic u => exact absurd h (hQ _ _ _)
    · exact absurd h (hO _ _)
  · rw [if_neg hw] at h
    exact ⟨keep a hy _, by rw [← Act.put_comm a v undef h2]; exact h⟩

/-- Whatever order: each state is of the class; behind so many operations Fin holds; the operation x is not among them. -/
def AnyG (P : Program) (md : Region.Mode) (ops : Array Oper) (Q : Exit → Act → World → Prop) (Cls : World → Prop) (x : Option Nat) (Fin : Array Bool → Act → World → Prop) : Nat → Array Bool → Act → World → Prop
  | 0, listed, a, w => Cls w ∧ Fin listed a w
  | f + 1, listed, a, w => Cls w ∧ Region.ready md ops listed ≠ [] ∧ ∀ i ∈ Region.ready md ops listed, some i ≠ x ∧ wpOp P ops Q i (AnyG P md ops Q Cls x Fin f (listed.setIfInBounds i true)) a w

theorem AnyG.cls {x : Option Nat} {Fin : Array Bool → Act → World → Prop} {f : Nat} {listed : Array Bool} {a : Act} {w : World} (h : AnyG P md ops Q Cls x Fin f listed a w) : Cls w := by
  cases f <;> exact h.1

theorem AnyG.first {x : Option Nat} {Fin : Array Bool → Act → World → Prop} {i : Nat} {oi : Oper} {v : Value} (hi : ops[i]? = some oi) (hsel : Region.noSelect ops = true) (hQ : ∀ c a w, ¬ Q (.panic c) a w) (hO : ∀ a w, ¬ Q .outgrown a w)
    (hfin : ∀ listed a w, Fin listed a w → ∀ j ∈ Region.ready md ops listed, some j = x) (hx : ∀ listed j, x = some j → j ∈ Region.ready md ops listed → listed.getD i false = true) :
    ∀ (f : Nat) (listed : Array Bool) (a : Act) (w : World),
      (∀ j oj, ops[j]? = some oj → j ≠ i → listed.getD j true = false → (∀ e ∈ oj.after, Region.binds md e = true → e.on ≠ i) → oi.apart ops oj = true) →
      i ∈ Region.ready md ops listed → RobAt P ops Cls oi v a → Cls w →
      AnyG P md ops Q Cls x Fin f (listed.setIfInBounds i true) (a.put oi.dst v) w → AnyG P md ops Q Cls x Fin (f + 1) listed a w := by
  intro f
  induction f with
  | zero =>
    intro listed a w _ hr hy hw hL
    have hun := (mem_ready.1 hr).1
    refine ⟨hw, fun h => (by rw [h] at hr; cases hr), fun j hj => ⟨fun h => ?_, ?_⟩⟩
    · have := hx listed j h.symm hj
      rw [getD_both hun] at this; cases this
    · by_cases hji : j = i
      · subst hji; exact hy.wpOp hi hw hL
      · have h1 := hfin _ _ _ hL.2 j (ready_mono hj hji)
        have := hx listed j h1.symm hj
        rw [getD_both hun] at this; cases this
  | succ f ih =>
    intro listed a w hfree hr hy hw hL
    have hun := (mem_ready.1 hr).1
    refine ⟨hw, fun h => (by rw [h] at hr; cases hr), fun j hj => ⟨fun h => ?_, ?_⟩⟩
    · have := hx listed j h.symm hj
      rw [getD_both hun] at this; cases this
    · by_cases hji : j = i
      · subst hji; exact hy.wpOp hi hw hL
      · have h1 := (hL.2.2 j (ready_mono hj hji)).2
        obtain ⟨hju, oj, hoj, hall⟩ := mem_ready.1 hj
        have hnot : ∀ e ∈ oj.after, Region.binds md e = true → e.on ≠ i := fun e he hbd heq => by
          have h2 := hall e he hbd
          rw [heq, getD_both hun] at h2
          cases h2
        have h2 := rob_put hoj (hfree j oj hoj hji hju hnot) (fun cs b => Region.noSelect_spec hsel i oi cs b hi) (fun cs b => Region.noSelect_spec hsel j oj cs b hoj) hQ hO hy h1
        refine wpOp_mono (fun a' w' h3 => ih (listed.setIfInBounds j true) a' w' (fun k ok hk hki hku hno => ?_) (ready_mono hr (Ne.symm hji)) h3.1 h3.2.cls ?_) h2
        · refine hfree k ok hk hki ?_ hno
          by_cases hjk : j = k
          · subst hjk; exact hju
          · rw [getD_set_ne true hjk] at hku; exact hku
        · rw [Array.setIfInBounds_comm _ _ hji]; exact h3.2

/-- An order of a region's operations, each with a mark: does it turn memory? -/
def lexOrd (md : Region.Mode) (ops : Array Oper) (F : Array Bool → Bool) : List (Nat × Bool) → Array Bool → Bool
  | [], listed => F listed
  | (k, false) :: r, listed => (Region.ready md ops listed).contains k && Region.free md ops listed k && lexOrd md ops F r (listed.setIfInBounds k true)
  | (k, true) :: r, listed => decide (Region.ready md ops listed = [k]) && lexOrd md ops F r (listed.setIfInBounds k true)

def FLs (P : Program) (ops : Array Oper) (Q : Exit → Act → World → Prop) (Cls : World → Prop) (N : Act → World → Prop) : List (Nat × Bool) → Act → World → Prop
  | [], a, w => Cls w ∧ N a w
  | (k, false) :: r, a, w => Cls w ∧ ∃ o v, ops[k]? = some o ∧ RobAt P ops Cls o v a ∧ FLs P ops Q Cls N r (a.put o.dst v) w
  | (k, true) :: r, a, w => Cls w ∧ wpOp P ops Q k (FLs P ops Q Cls N r) a w

theorem anyG_of_FLs {x : Option Nat} {F : Array Bool → Bool} {N : Act → World → Prop} (hsel : Region.noSelect ops = true) (hQ : ∀ c a w, ¬ Q (.panic c) a w) (hO : ∀ a w, ¬ Q .outgrown a w)
    (hF : ∀ listed, F listed = true → ∀ j ∈ Region.ready md ops listed, some j = x) (hx : ∀ i, some i ≠ x → ∀ listed j, x = some j → j ∈ Region.ready md ops listed → listed.getD i false = true) :
    ∀ (ord : List (Nat × Bool)) (listed : Array Bool) (a : Act) (w : World), (∀ k b, (k, b) ∈ ord → some k ≠ x) → lexOrd md ops F ord listed = true → FLs P ops Q Cls N ord a w →
      AnyG P md ops Q Cls x (fun listed a w => F listed = true ∧ N a w) ord.length listed a w
  | [], listed, a, w, _, hB, h => ⟨h.1, hB, h.2⟩
  | (k, false) :: r, listed, a, w, hne, hB, h => by
    simp only [lexOrd, Bool.and_eq_true] at hB
    obtain ⟨⟨hr, hf⟩, hB'⟩ := hB
    obtain ⟨hw, o, v, ho, hy, hrest⟩ := h
    have hkx := hne k false List.mem_cons_self
    exact AnyG.first ho hsel hQ hO (fun listed a w hL => hF listed hL.1) (hx k hkx) r.length listed a w (Region.free_spec ho hf) (by simpa using hr) hy hw
      (anyG_of_FLs hsel hQ hO hF hx r _ _ _ (fun k b hm => hne k b (List.mem_cons_of_mem _ hm)) hB' hrest)
  | (k, true) :: r, listed, a, w, hne, hB, h => by
    simp only [lexOrd, Bool.and_eq_true, decide_eq_true_eq] at hB
    obtain ⟨hr, hB'⟩ := hB
    refine ⟨h.1, by rw [hr]; simp, fun i hi => ?_⟩
    rw [hr] at hi
    have : i = k := by simpa using hi
    subst this
    exact ⟨hne i true List.mem_cons_self, wpOp_mono (fun a' w' h' => anyG_of_FLs hsel hQ hO hF hx r _ a' w' (fun k b hm => hne k b (List.mem_cons_of_mem _ hm)) hB' h') h.2⟩

theorem anyG_of_FLs2 {x : Option Nat} {F : Array Bool → Bool} {N : Act → World → Prop} (hsel : Region.noSelect ops = true) (hQ : ∀ c a w, ¬ Q (.panic c) a w) (hO : ∀ a w, ¬ Q .outgrown a w)
    (hF : ∀ listed, F listed = true → ∀ j ∈ Region.ready md ops listed, some j = x) (hx : ∀ i, i < ops.size → some i ≠ x → ∀ listed j, x = some j → j ∈ Region.ready md ops listed → listed.getD i false = true) :
    ∀ (ord : List (Nat × Bool)) (listed : Array Bool) (a : Act) (w : World), (∀ k b, (k, b) ∈ ord → some k ≠ x ∧ k < ops.size) → lexOrd md ops F ord listed = true → FLs P ops Q Cls N ord a w →
      AnyG P md ops Q Cls x (fun listed a w => F listed = true ∧ N a w) ord.length listed a w
  | [], listed, a, w, _, hB, h => ⟨h.1, hB, h.2⟩
  | (k, false) :: r, listed, a, w, hne, hB, h => by
    simp only [lexOrd, Bool.and_eq_true] at hB
    obtain ⟨⟨hr, hf⟩, hB'⟩ := hB
    obtain ⟨hw, o, v, ho, hy, hrest⟩ := h
    obtain ⟨hkx, hks⟩ := hne k false List.mem_cons_self
    exact AnyG.first ho hsel hQ hO (fun listed a w hL => hF listed hL.1) (hx k hks hkx) r.length listed a w (Region.free_spec ho hf) (by simpa using hr) hy hw
      (anyG_of_FLs2 hsel hQ hO hF hx r _ _ _ (fun k b hm => hne k b (List.mem_cons_of_mem _ hm)) hB' hrest)
  | (k, true) :: r, listed, a, w, hne, hB, h => by
    simp only [lexOrd, Bool.and_eq_true, decide_eq_true_eq] at hB
    obtain ⟨hr, hB'⟩ := hB
    refine ⟨h.1, by rw [hr]; simp, fun i hi => ?_⟩
    rw [hr] at hi
    have : i = k := by simpa using hi
    subst this
    exact ⟨(hne i true List.mem_cons_self).1, wpOp_mono (fun a' w' h' => anyG_of_FLs2 hsel hQ hO hF hx r _ a' w' (fun k b hm => hne k b (List.mem_cons_of_mem _ hm)) hB' h') h.2⟩

theorem anyG_sound {x : Option Nat} {Fin : Array Bool → Act → World → Prop} {g : Nat} (hfin : ∀ listed a w, Fin listed a w → wpAny P md ops Q g listed a w) : ∀ (f : Nat) (listed : Array Bool) (a : Act) (w : World), AnyG P md ops Q Cls x Fin f listed a w → wpAny P md ops Q (f + g) listed a w
  | 0, listed, a, w, h => by rw [Nat.zero_add]; exact hfin _ _ _ h.2
  | f + 1, listed, a, w, h => by
    rw [show f + 1 + g = (f + g) + 1 by omega]
    exact ⟨fun h0 => absurd h0 h.2.1, fun i hi => wpOp_mono (fun a' w' h' => anyG_sound hfin f _ a' w' h') (h.2.2 i hi).2⟩
end

/-! In symbolic states. K: the blocks that the region's reads read. -/
structure FL (P : Program) (C : Cx) (ops : Array Oper) (K : Heap) (Q : Exit → Env → Heap → Prop) (N : Env → Heap → Prop) (ord : List (Nat × Bool)) (l : Env) (H : Heap) : Prop where
  out : ∀ a w, Sat C.n l a → C.st H w → C.st K w → FLs P ops (lift C Q) (C.st K) (fun a' w' => ∃ l' H', Sat C.n l' a' ∧ C.st H' w' ∧ N l' H') ord a w

section
variable {P : Program} {C : Cx} {ops : Array Oper} {K : Heap} {Q : Exit → Env → Heap → Prop} {N : Env → Heap → Prop} {r : List (Nat × Bool)} {l : Env} {H : Heap}
variable {o : Op} {ty : TypeId} {pos : String} {af : Array Edge} {v : Value} {d k : Nat}

theorem fl_nil (h : N l H) : FL P C ops K Q N [] l H := ⟨fun _ _ hs hw hk => ⟨hk, l, H, hs, hw, h⟩⟩

theorem fl_ev (ho : ops[k]? = some ⟨some d, o, ty, pos, af, none⟩) (h : Ev P C K l o ty v) (hd : Nat.ble (d + 1) C.n = true) (n : FL P C ops K Q N r ((d, v) :: l) H) : FL P C ops K Q N ((k, false) :: r) l H :=
  ⟨fun a w hs hw hk => ⟨hk, _, v, ho, .inl ⟨rfl, fun w' hw' => h.out a w' _ _ _ _ hs hw'⟩, n.out _ w (hs.put (Nat.le_of_ble_eq_true hd) v) hw hk⟩⟩

theorem fl_ev_on {j s : Nat} {b : Bool} (ho : ops[k]? = some ⟨some d, o, ty, pos, af, some (j, b)⟩) (hj : gslot ops j = some s) (ht : look l s = some (.bool b)) (h : Ev P C K l o ty v) (hd : Nat.ble (d + 1) C.n = true) (hn : Nat.ble (s + 1) C.n = true) (n : FL P C ops K Q N r ((d, v) :: l) H) :
    FL P C ops K Q N ((k, false) :: r) l H :=
  ⟨fun a w hs hw hk => ⟨hk, _, v, ho, .inl ⟨by simp [Region.wanted, yielded_of hs hj ht (Nat.le_of_ble_eq_true hn)], fun w' hw' => h.out a w' _ _ _ _ hs hw'⟩, n.out _ w (hs.put (Nat.le_of_ble_eq_true hd) v) hw hk⟩⟩

theorem fl_off {j s : Nat} {b c : Bool} (ho : ops[k]? = some ⟨some d, o, ty, pos, af, some (j, b)⟩) (hj : gslot ops j = some s) (ht : look l s = some (.bool c)) (hne : (c == b) = false) (hd : Nat.ble (d + 1) C.n = true) (hn : Nat.ble (s + 1) C.n = true) (n : FL P C ops K Q N r ((d, undef) :: l) H) :
    FL P C ops K Q N ((k, false) :: r) l H :=
  ⟨fun a w hs hw hk => ⟨hk, _, undef, ho, .inr ⟨by
    simp only [Region.wanted, yielded_of hs hj ht (Nat.le_of_ble_eq_true hn)]
    cases c <;> cases b <;> simp_all, rfl⟩, n.out _ w (hs.put (Nat.le_of_ble_eq_true hd) undef) hw hk⟩⟩
theorem fl_offu {j s : Nat} {b : Bool} (ho : ops[k]? = some ⟨some d, o, ty, pos, af, some (j, b)⟩) (hj : gslot ops j = some s) (ht : look l s = some undef) (hd : Nat.ble (d + 1) C.n = true) (hn : Nat.ble (s + 1) C.n = true) (n : FL P C ops K Q N r ((d, undef) :: l) H) :
    FL P C ops K Q N ((k, false) :: r) l H :=
  ⟨fun a w hs hw hk => ⟨hk, _, undef, ho, .inr ⟨by simp [Region.wanted, yielded_undef hs hj ht (Nat.le_of_ble_eq_true hn)], rfl⟩, n.out _ w (hs.put (Nat.le_of_ble_eq_true hd) undef) hw hk⟩⟩

theorem St.subset {W w1 : World} {D : List Nat} {H K : Heap} {w : World} (h : St W w1 D H w) (hs : ∀ p ∈ K, p ∈ H) (hn : (K.map (·.1)).Nodup) : St W w1 D K w :=
  ⟨h.low, ⟨fun b o hm => h.own.has b o (hs _ hm), hn⟩, fun b o hm => h.above b o (hs _ hm), h.size, h.kept, fun b o hm => h.new b o (hs _ hm)⟩

/-- An operation that turns memory, but none of the blocks K. -/
theorem fl_x {om : Oper} (ho : ops[k]? = some om) (h : OL P C ops [om] l H (thenQ (fun l2 H2 => (∀ p ∈ K, p ∈ H2) ∧ FL P C ops K Q N r l2 H2) Q)) : FL P C ops K Q N ((k, true) :: r) l H := by
  refine ⟨fun a w hs hw hk => ⟨hk, ?_⟩⟩
  have h1 := h.out a w hs hw
  have next : ∀ (a2 : Act) (w2 : World), lift C (thenQ (fun l2 H2 => (∀ p ∈ K, p ∈ H2) ∧ FL P C ops K Q N r l2 H2) Q) .normal a2 w2 → FLs P ops (lift C Q) (C.st K) (fun a' w' => ∃ l' H', Sat C.n l' a' ∧ C.st H' w' ∧ N l' H') r a2 w2 := by
    rintro a2 w2 ⟨l2, H2, s2, t2, hsub, hfl⟩
    exact hfl.out a2 w2 s2 t2 (St.subset t2 hsub hk.own.nodup)
  unfold wpOp
  rw [ho]
  simp only
  unfold wpList at h1
  split <;> rename_i hwant
  · rw [if_pos hwant] at h1
    rcases h1 with h1 | ⟨hask, a0, w0, x1⟩
    · exact .inl (Oper.wp_mono2 (fun a2 w2 hk2 => next a2 w2 hk2) (fun c a2 w2 hq => hq) (fun a2 w2 hq => hq) h1)
    · exact .inr ⟨hask, a0, w0, x1⟩
  · rw [if_neg hwant] at h1
    exact next _ _ h1

theorem sub_nil {H : Heap} : ∀ p ∈ ([] : Heap), p ∈ H := fun _ h => by cases h
theorem sub_cons {b : Nat} {o : HO} {H K : Heap} (h : (b, o) ∈ H) (r : ∀ p ∈ K, p ∈ H) : ∀ p ∈ (b, o) :: K, p ∈ H := fun p hp => by
  rcases List.mem_cons.1 hp with rfl | hp
  · exact h
  · exact r p hp
theorem sub_refl {H : Heap} : ∀ p ∈ H, p ∈ H := fun _ h => h
theorem sub_right {G H : Heap} : ∀ p ∈ H, p ∈ G ++ H := fun _ h => List.mem_append_right _ h
theorem sub_tail {x : Nat × HO} {G H : Heap} (h : ∀ p ∈ H, p ∈ G) : ∀ p ∈ H, p ∈ x :: G := fun p hp => List.mem_cons_of_mem _ (h p hp)

def noneB (md : Region.Mode) (ops : Array Oper) (listed : Array Bool) : Bool := (Region.ready md ops listed).isEmpty
def oneB (md : Region.Mode) (ops : Array Oper) (x : Nat) (listed : Array Bool) : Bool := decide (Region.ready md ops listed = [x]) && (Region.ready md ops (listed.setIfInBounds x true)).isEmpty
def allB (md : Region.Mode) (ops : Array Oper) (x : Nat) : Bool := (List.range ops.size).all fun i => decide (i = x) || Region.waitsFor md ops x i

/-- The whole region in an order of ours. -/
theorem cw_float {id : Nat} {os : List Oper} (ord : List (Nat × Bool)) (K : Heap) (hm : P.follows .mixedOrders = true) (hB : (Region.noSelect os.toArray && decide (ord.length = os.toArray.size) && lexOrd .any os.toArray (noneB .any os.toArray) ord (Array.replicate os.toArray.size false)) = true)
    (hK : K.Sublist H) (hQ : ∀ c l H, ¬ Q (.panic c) l H) (hO : ∀ l H, ¬ Q .outgrown l H) (h : FL P C os.toArray K Q (fun l' H' => Q .normal l' H') ord l H) : CW P C (.region id os.toArray true) l H Q := by
  refine ⟨fun a w hs hw => ?_⟩
  simp only [Bool.and_eq_true, decide_eq_true_eq] at hB
  obtain ⟨⟨hsel, hlen⟩, hlex⟩ := hB
  have hw' : C.st H { w with drawn := w.drawn + 1 } := St.drew hw
  have hk' : C.st K { w with drawn := w.drawn + 1 } := St.less hw' hK
  refine wp_region_any hm ?_
  have hfl := h.out a _ hs hw' hk'
  have hG := anyG_of_FLs (md := .any) (x := none) (F := noneB .any os.toArray) hsel (fun c a w ⟨l, H, _, _, hq⟩ => hQ c l H hq) (fun a w ⟨l, H, _, _, hq⟩ => hO l H hq)
    (fun listed hl j hj => by simp only [noneB, List.isEmpty_iff] at hl; rw [hl] at hj; cases hj) (fun i _ listed j hx => by cases hx) ord _ a _ (fun k b _ => by simp) hlex hfl
  have := anyG_sound (g := 0) (Q := lift C Q) (fun listed a w ⟨hl, l', H', s1, s2, s3⟩ => ⟨by simpa [noneB] using hl, l', H', s1, s2, s3⟩) _ _ _ _ hG
  rw [hlen] at this
  exact this

/-- The whole region in an order of ours, but for an operation that waits for all others. -/
theorem cw_floatx {id : Nat} {os : List Oper} {om : Oper} (ord : List (Nat × Bool)) (x : Nat) (K : Heap) (hm : P.follows .mixedOrders = true)
    (hB : (Region.noSelect os.toArray && decide (ord.length + 1 = os.toArray.size) && (ord.all fun p => decide (p.1 ≠ x) && decide (p.1 < os.toArray.size)) && allB .any os.toArray x && lexOrd .any os.toArray (oneB .any os.toArray x) ord (Array.replicate os.toArray.size false)) = true) (hom : os[x]? = some om)
    (hK : K.Sublist H) (hQ : ∀ c l H, ¬ Q (.panic c) l H) (hO : ∀ l H, ¬ Q .outgrown l H) (h : FL P C os.toArray K Q (fun l' H' => OL P C os.toArray [om] l' H' Q) ord l H) : CW P C (.region id os.toArray true) l H Q := by
  refine ⟨fun a w hs hw => ?_⟩
  simp only [Bool.and_eq_true, decide_eq_true_eq] at hB
  obtain ⟨⟨⟨⟨hsel, hlen⟩, hne⟩, hall⟩, hlex⟩ := hB
  have hw' : C.st H { w with drawn := w.drawn + 1 } := St.drew hw
  have hk' : C.st K { w with drawn := w.drawn + 1 } := St.less hw' hK
  refine wp_region_any hm ?_
  have hfl := h.out a _ hs hw' hk'
  have hxs : ∀ i, i < os.toArray.size → some i ≠ some x → ∀ listed j, some x = some j → j ∈ Region.ready .any os.toArray listed → listed.getD i false = true := fun i hi hix listed j hj hr => by
    cases hj
    have h1 := List.all_eq_true.1 hall i (List.mem_range.2 hi)
    simp only [Bool.or_eq_true, decide_eq_true_eq] at h1
    rcases h1 with h1 | h1
    · exact absurd (by rw [h1]) hix
    · obtain ⟨ox, hox, e, he, hb, hon⟩ := Region.waitsFor_spec h1
      obtain ⟨_, ox', hox', hdeps⟩ := mem_ready.1 hr
      obtain rfl : ox = ox' := Option.some.inj (hox.symm.trans hox')
      rw [← hon]; exact hdeps e he hb
  have hG := anyG_of_FLs2 (md := .any) (x := some x) (F := oneB .any os.toArray x) hsel (fun c a w ⟨l, H, _, _, hq⟩ => hQ c l H hq) (fun a w ⟨l, H, _, _, hq⟩ => hO l H hq)
    (fun listed hl j hj => by
      simp only [oneB, Bool.and_eq_true, decide_eq_true_eq] at hl
      rw [hl.1] at hj
      have : j = x := by simpa using hj
      rw [this]) hxs ord _ a _ (fun k b hm => by
      have := List.all_eq_true.1 hne (k, b) hm
      simp only [Bool.and_eq_true, decide_eq_true_eq] at this
      exact ⟨fun h => this.1 (Option.some.inj h), this.2⟩) hlex hfl
  have := anyG_sound (g := 1) (Q := lift C Q) (fun listed a w ⟨hl, l', H', s1, s2, s3⟩ => by
    simp only [oneB, Bool.and_eq_true, decide_eq_true_eq, List.isEmpty_iff] at hl
    refine ⟨fun h0 => (by rw [hl.1] at h0; cases h0), fun i hi => ?_⟩
    rw [hl.1] at hi
    have : i = x := by simpa using hi
    subst this
    have h1 := s3.out a w s1 s2
    unfold wpOp
    rw [show os.toArray[i]? = some om by simpa using hom]
    simp only
    unfold wpList at h1
    split <;> rename_i hwant
    · rw [if_pos hwant] at h1
      rcases h1 with h1 | h1
      · exact .inl (Oper.wp_mono (fun a2 w2 hk2 => ⟨hl.2, hk2⟩) h1)
      · exact .inr h1
    · rw [if_neg hwant] at h1
      exact ⟨hl.2, h1⟩) _ _ _ _ hG
  rw [hlen] at this
  exact this
end
end Go.HE
