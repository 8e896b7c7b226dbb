/- A calculus of symbolic states for walks over Go code: frames as lists of known slots, memory as lists of owned blocks; its rules, each proved from the model's own. No condition: these are lemmas of our own. -/
import Derived.WalkKit
import Derived.StillTail
namespace Go.HE
open Go.RowKit

/-- What is known of a frame's slots. -/
abbrev Env := List (Nat × Value)

def look : Env → Nat → Option Value
  | [], _ => none
  | (k, v) :: l, t => match Nat.beq k t with
    | true => some v
    | false => look l t

structure Sat (n : Nat) (l : Env) (a : Act) : Prop where
  defers : a.defers = []
  size : a.tmps.size = n
  has : ∀ t v, look l t = some v → a.tmps.getD t undef = v

theorem Sat.put {n : Nat} {l : Env} {a : Act} (h : Sat n l a) {d : Nat} (hd : d < n) (v : Value) : Sat n ((d, v) :: l) (a.put (some d) v) := by
  refine ⟨h.defers, ?_, ?_⟩
  · simp [Act.put, h.size]
  · intro t u hu
    simp only [look] at hu
    have hs := h.size
    by_cases e : d = t
    · subst e
      have : Nat.beq d d = true := by simp
      rw [this] at hu
      simp only [Option.some.injEq] at hu
      subst hu
      simp [Act.put, hs, hd]
    · have : Nat.beq d t = false := by
        cases hb : Nat.beq d t
        · rfl
        · exact absurd (Nat.eq_of_beq_eq_true hb) e
      rw [this] at hu
      have := h.has t u hu
      simpa [Act.put, Array.getElem?_setIfInBounds_ne e] using this

/-- Each entry of the second list is known by the first. -/
def SubE (l : Env) : Env → Prop
  | [] => True
  | (k, v) :: r => look l k = some v ∧ SubE l r

theorem SubE.look {l : Env} : ∀ {r : Env}, SubE l r → ∀ t v, look r t = some v → HE.look l t = some v
  | [], _, t, v, h => by simp [HE.look] at h
  | (k, u) :: r, hs, t, v, h => by
    simp only [HE.look] at h
    cases hb : Nat.beq k t with
    | true =>
      rw [hb] at h
      simp only [Option.some.injEq] at h
      subst h
      have := Nat.eq_of_beq_eq_true hb
      subst this
      exact hs.1
    | false =>
      rw [hb] at h
      exact SubE.look hs.2 t v h

theorem Sat.weak {n : Nat} {l r : Env} {a : Act} (h : Sat n l a) (hs : SubE l r) : Sat n r a :=
  ⟨h.defers, h.size, fun t v hv => h.has t v (hs.look t v hv)⟩

/-- An operand's value, where it is known. -/
def ev (l : Env) : Operand → Option Value
  | .tmp t => look l t
  | .const v => some v
  | .global g => some (.pointer (some ⟨g, 0, none⟩))
  | .func f => some (.func (.func f) #[] #[])

theorem Sat.eval {n : Nat} {l : Env} {a : Act} (h : Sat n l a) {x : Operand} {v : Value} (hx : ev l x = some v) : a.eval x = v := by
  cases x with
  | tmp t => exact h.has t v hx
  | const u => simpa [ev, Act.eval] using hx
  | global g => simpa [ev, Act.eval] using hx
  | func f => simpa [ev, Act.eval] using hx

/-- A row of cells in memory. -/
structure HO where
  cells : List Value
  elem : TypeId
  fz : Nat × Nat := (0, 0)

def HO.obj (o : HO) : Obj := .cells o.cells.toArray o.elem o.fz

abbrev Heap := List (Nat × HO)

structure Own (H : Heap) (w : World) : Prop where
  has : ∀ b o, (b, o) ∈ H → w.heap[b]? = some o.obj
  nodup : (H.map (·.1)).Nodup

/-- A state of memory within a call: what was there when the law began is as it was; the owned blocks hold what they hold; of what was there when this call began only its own blocks have turned. -/
structure St (W w1 : World) (D : List Nat) (H : Heap) (w : World) : Prop where
  low : Below W.heap.size W w
  own : Own H w
  above : ∀ b o, (b, o) ∈ H → W.heap.size ≤ b
  size : w1.heap.size ≤ w.heap.size
  kept : ∀ b, b < w1.heap.size → b ∉ D → w.heap[b]? = w1.heap[b]?
  new : ∀ b o, (b, o) ∈ H → b ∈ D ∨ w1.heap.size ≤ b

theorem Own.lt {H : Heap} {w : World} (h : Own H w) {b : Nat} {o : HO} (hb : (b, o) ∈ H) : b < w.heap.size := by
  have := h.has b o hb
  exact (Array.getElem?_eq_some_iff.1 this).1

theorem Own.cell {H : Heap} {w : World} (h : Own H w) {b off : Nat} {o : HO} (hb : (b, o) ∈ H) : w.cell? ⟨b, off, none⟩ = o.cells[off]? := by
  have := h.has b o hb
  simp [World.cell?, this, HO.obj]

theorem Own.frozen {H : Heap} {w : World} (h : Own H w) {b off : Nat} {o : HO} (hb : (b, o) ∈ H) : w.frozen? ⟨b, off, none⟩ = (o.fz.1 ≤ off && off < o.fz.2) := by
  have := h.has b o hb
  simp [World.frozen?, this, HO.obj]

theorem Own.shape {H : Heap} {w : World} (h : Own H w) {b : Nat} {o : HO} (hb : (b, o) ∈ H) : w.shape? b = some (o.elem, o.cells.length) := by
  have := h.has b o hb
  simp [World.shape?, this, HO.obj]

theorem St.drew {W w1 : World} {D : List Nat} {H : Heap} {w : World} (h : St W w1 D H w) : St W w1 D H { w with drawn := w.drawn + 1 } :=
  ⟨⟨h.low.os, h.low.tape, h.low.output, h.low.size, h.low.block⟩, ⟨h.own.has, h.own.nodup⟩, h.above, h.size, h.kept, h.new⟩

theorem St.cell {W w1 : World} {D : List Nat} {H : Heap} {w : World} (h : St W w1 D H w) {b off : Nat} {o : HO} {v : Value} (hb : (b, o) ∈ H) (hc : o.cells[off]? = some v) :
    w.cell? ⟨b, off, none⟩ = some v := by rw [h.own.cell hb, hc]

theorem St.cellW {W w1 : World} {D : List Nat} {H : Heap} {w : World} (h : St W w1 D H w) {a : Addr} {v : Value} (hc : W.cell? a = some v) :
    w.cell? a = some v := by
  have hb : a.block < W.heap.size := by
    by_cases hlt : a.block < W.heap.size
    · exact hlt
    · simp [World.cell?, Array.getElem?_eq_none (Nat.le_of_not_lt hlt)] at hc
  rw [h.low.cell hb, hc]

/-- The owned block b turns from o to o'. -/
def Upd : Heap → Nat → HO → HO → Heap → Prop
  | [], _, _, _, _ => False
  | (c, p) :: H, b, o, o', K => (c = b ∧ p = o ∧ K = (b, o') :: H) ∨ ∃ K', K = (c, p) :: K' ∧ Upd H b o o' K'

theorem Upd.head {H : Heap} {b : Nat} {o o' : HO} : Upd ((b, o) :: H) b o o' ((b, o') :: H) := .inl ⟨rfl, rfl, rfl⟩
theorem Upd.tail {H K : Heap} {b : Nat} {o o' : HO} {x : Nat × HO} (h : Upd H b o o' K) : Upd (x :: H) b o o' (x :: K) := by
  obtain ⟨c, p⟩ := x; exact .inr ⟨K, rfl, h⟩

theorem Upd.mem {b : Nat} {o o' : HO} : ∀ {H K : Heap}, Upd H b o o' K → (b, o) ∈ H
  | (c, p) :: H, K, h => by
    rcases h with ⟨rfl, rfl, _⟩ | ⟨K', _, h⟩
    · exact List.mem_cons_self
    · exact List.mem_cons_of_mem _ h.mem

theorem Upd.dom {b : Nat} {o o' : HO} : ∀ {H K : Heap}, Upd H b o o' K → K.map (·.1) = H.map (·.1)
  | (c, p) :: H, K, h => by
    rcases h with ⟨rfl, rfl, rfl⟩ | ⟨K', rfl, h⟩
    · rfl
    · simp [h.dom]

theorem Upd.cases {b : Nat} {o o' : HO} : ∀ {H K : Heap}, Upd H b o o' K → (H.map (·.1)).Nodup → ∀ c p, (c, p) ∈ K → (c = b ∧ p = o') ∨ (c ≠ b ∧ (c, p) ∈ H)
  | (d, q) :: H, K, h, hn, c, p, hm => by
    simp only [List.map_cons, List.nodup_cons] at hn
    rcases h with ⟨rfl, rfl, rfl⟩ | ⟨K', rfl, h⟩
    · rcases List.mem_cons.1 hm with e | e
      · cases e; exact .inl ⟨rfl, rfl⟩
      · refine .inr ⟨fun ec => ?_, List.mem_cons_of_mem _ e⟩
        subst ec
        exact hn.1 (List.mem_map.2 ⟨(c, p), e, rfl⟩)
    · rcases List.mem_cons.1 hm with e | e
      · cases e
        refine .inr ⟨fun ec => ?_, List.mem_cons_self⟩
        exact hn.1 (List.mem_map.2 ⟨(b, o), h.mem, ec.symm⟩)
      · rcases h.cases hn.2 c p e with r | ⟨r1, r2⟩
        · exact .inl r
        · exact .inr ⟨r1, List.mem_cons_of_mem _ r2⟩

/-- A world in which one owned block has turned. -/
theorem St.upd {W w1 : World} {D : List Nat} {H K : Heap} {w w' : World} {b : Nat} {o o' : HO} (h : St W w1 D H w) (hu : Upd H b o o' K)
    (hos : w'.os = w.os) (ht : w'.tape = w.tape) (hout : w'.output = w.output) (hsz : w'.heap.size = w.heap.size)
    (hb : w'.heap[b]? = some o'.obj) (hne : ∀ c, c ≠ b → w'.heap[c]? = w.heap[c]?) : St W w1 D K w' := by
  have hab := h.above b o hu.mem
  refine ⟨⟨hos.trans h.low.os, ht.trans h.low.tape, hout.trans h.low.output, by rw [hsz]; exact h.low.size, fun k hk => ?_⟩, ⟨fun c p hm => ?_, ?_⟩, fun c p hm => ?_, by rw [hsz]; exact h.size, fun c hc hD => ?_, fun c p hm => ?_⟩
  · rw [hne k (by omega)]; exact h.low.block k hk
  · rcases hu.cases h.own.nodup c p hm with ⟨rfl, rfl⟩ | ⟨r1, r2⟩
    · exact hb
    · rw [hne c r1]; exact h.own.has c p r2
  · rw [hu.dom]; exact h.own.nodup
  · rcases hu.cases h.own.nodup c p hm with ⟨rfl, rfl⟩ | ⟨r1, r2⟩
    · exact hab
    · exact h.above c p r2
  · by_cases e : c = b
    · subst e
      rcases h.new c o hu.mem with r | r
      · exact absurd r hD
      · omega
    · rw [hne c e]; exact h.kept c hc hD
  · rcases hu.cases h.own.nodup c p hm with ⟨rfl, rfl⟩ | ⟨r1, r2⟩
    · exact h.new c o hu.mem
    · exact h.new c p r2

theorem heap_setCell_same {w : World} {b off : Nat} {o : HO} (v : Value) (h : w.heap[b]? = some o.obj) :
    (w.setCell ⟨b, off, none⟩ v).heap[b]? = some (HO.obj ⟨o.cells.set off v, o.elem, o.fz⟩) := by
  simp only [World.setCell, Array.getElem?_modify, h, Option.map_some]
  simp [HO.obj]

theorem St.setCell {W w1 : World} {D : List Nat} {H K : Heap} {w : World} {b off : Nat} {o : HO} {v : Value} (h : St W w1 D H w)
    (hu : Upd H b o ⟨o.cells.set off v, o.elem, o.fz⟩ K) : St W w1 D K (w.setCell ⟨b, off, none⟩ v) :=
  h.upd hu rfl rfl rfl (by simp) (heap_setCell_same v (h.own.has b o hu.mem)) (fun c hc => Below.heap_setCell _ _ _ _ hc)

/-- A new block. -/
theorem St.alloc {W w1 : World} {D : List Nat} {H : Heap} {w : World} (h : St W w1 D H w) (o : HO) : St W w1 D ((w.heap.size, o) :: H) (w.alloc o.obj) := by
  have hlt : ∀ b p, (b, p) ∈ H → b < w.heap.size := fun b p hm => h.own.lt hm
  refine ⟨h.low.alloc h.low.size _, ⟨fun c p hm => ?_, ?_⟩, fun c p hm => ?_, ?_, fun c hc hD => ?_, fun c p hm => ?_⟩
  · rcases List.mem_cons.1 hm with e | e
    · cases e
      show (w.heap.push o.obj)[w.heap.size]? = some o.obj
      simp
    · rw [Below.heap_alloc _ _ _ (hlt c p e)]; exact h.own.has c p e
  · simp only [List.map_cons, List.nodup_cons]
    refine ⟨fun hm => ?_, h.own.nodup⟩
    obtain ⟨⟨c, p⟩, hm, e⟩ := List.mem_map.1 hm
    have := hlt c p hm
    simp only at e
    omega
  · rcases List.mem_cons.1 hm with e | e
    · cases e; exact h.low.size
    · exact h.above c p e
  · have := h.size; simp; omega
  · have := h.size
    rw [Below.heap_alloc _ _ _ (by omega)]; exact h.kept c hc hD
  · rcases List.mem_cons.1 hm with e | e
    · cases e; exact .inr h.size
    · exact h.new c p e

/-- Fewer blocks are known. -/
theorem St.less {W w1 : World} {D : List Nat} {H K : Heap} {w : World} (h : St W w1 D H w) (hs : K.Sublist H) : St W w1 D K w :=
  ⟨h.low, ⟨fun b o hm => h.own.has b o (hs.subset hm), (hs.map _).nodup h.own.nodup⟩, fun b o hm => h.above b o (hs.subset hm), h.size, h.kept, fun b o hm => h.new b o (hs.subset hm)⟩

theorem St.perm {W w1 : World} {D : List Nat} {H K : Heap} {w : World} (h : St W w1 D H w) (hs : H.Perm K) : St W w1 D K w :=
  ⟨h.low, ⟨fun b o hm => h.own.has b o (hs.mem_iff.2 hm), ((hs.map _).nodup_iff).1 h.own.nodup⟩, fun b o hm => h.above b o (hs.mem_iff.2 hm), h.size, h.kept, fun b o hm => h.new b o (hs.mem_iff.2 hm)⟩

/-- A contract: whatever the world in which W's blocks are as they were and the blocks H are owned, the call returns as R says. -/
structure Ct (P : Program) (W : World) (f : FuncId) (args : Array Value) (H : Heap) (R : Value → Heap → Prop) : Prop where
  out : ∀ w, Below W.heap.size W w → Own H w → (∀ b o, (b, o) ∈ H → W.heap.size ≤ b) →
    Calls P f args w fun e w' => ∃ v H', e = .returned v ∧ R v H' ∧ St W w (H.map (·.1)) H' w'

theorem Ct.mono {P : Program} {W : World} {f : FuncId} {args : Array Value} {H : Heap} {R R' : Value → Heap → Prop} (h : Ct P W f args H R) (hr : ∀ v K, R v K → R' v K) : Ct P W f args H R' :=
  ⟨fun w h1 h2 h3 => (h.out w h1 h2 h3).mono fun _ _ ⟨v, K, e, r, s⟩ => ⟨v, K, e, hr v K r, s⟩⟩

/-- What a call leaves, seen from its caller. -/
theorem St.call {W w1 : World} {D : List Nat} {G R G' : Heap} {w w' : World} (h : St W w1 D (G ++ R) w) (h' : St W w (G.map (·.1)) G' w') : St W w1 D (G' ++ R) w' := by
  have hnd := h.own.nodup
  rw [List.map_append] at hnd
  have hapart : ∀ b o, (b, o) ∈ R → b ∉ G.map (·.1) := fun b o hm hb =>
    (List.nodup_append.1 hnd).2.2 b hb b (List.mem_map.2 ⟨(b, o), hm, rfl⟩) rfl
  have hR : ∀ b o, (b, o) ∈ R → w'.heap[b]? = some o.obj := fun b o hm => by
    rw [h'.kept b (h.own.lt (List.mem_append_right _ hm)) (hapart b o hm)]
    exact h.own.has b o (List.mem_append_right _ hm)
  refine ⟨h'.low, ⟨fun b o hm => ?_, ?_⟩, fun b o hm => ?_, Nat.le_trans h.size h'.size, fun b hb hD => ?_, fun b o hm => ?_⟩
  · rcases List.mem_append.1 hm with e | e
    · exact h'.own.has b o e
    · exact hR b o e
  · rw [List.map_append, List.nodup_append]
    refine ⟨h'.own.nodup, (List.nodup_append.1 hnd).2.1, fun x hx y hy e => ?_⟩
    subst e
    obtain ⟨⟨c, p⟩, hm, e1⟩ := List.mem_map.1 hx
    obtain ⟨⟨c2, p2⟩, hm2, e2⟩ := List.mem_map.1 hy
    simp only at e1 e2
    subst e1
    subst e2
    rcases h'.new c2 p hm with r | r
    · exact hapart c2 p2 hm2 r
    · have := h.own.lt (List.mem_append_right _ hm2)
      omega
  · rcases List.mem_append.1 hm with e | e
    · exact h'.above b o e
    · exact h.above b o (List.mem_append_right _ e)
  · have hs := h.size
    have : b ∉ G.map (·.1) := fun hmm => by
      obtain ⟨⟨c, p⟩, hcp, e⟩ := List.mem_map.1 hmm
      simp only at e
      subst e
      rcases h.new c p (List.mem_append_left _ hcp) with r | r
      · exact hD r
      · omega
    rw [h'.kept b (by omega) this]
    exact h.kept b hb hD
  · have hs := h.size
    rcases List.mem_append.1 hm with e | e
    · rcases h'.new b o e with r | r
      · obtain ⟨⟨c, p⟩, hcp, e⟩ := List.mem_map.1 r
        simp only at e
        subst e
        exact h.new c p (List.mem_append_left _ hcp)
      · exact .inr (by omega)
    · exact h.new b o (List.mem_append_right _ e)

/-- The surroundings of a walk: the law's first world, the call's first world, the blocks that it was handed, the frame's size. -/
structure Cx where
  W : World
  w1 : World
  D : List Nat
  n : Nat

def Cx.st (C : Cx) (H : Heap) (w : World) : Prop := St C.W C.w1 C.D H w

def lift (C : Cx) (Q : Exit → Env → Heap → Prop) : Exit → Act → World → Prop := fun e a w => ∃ l H, Sat C.n l a ∧ C.st H w ∧ Q e l H

/-- From a state that is known as l and H the code leads to Q. -/
structure CW (P : Program) (C : Cx) (c : Code) (l : Env) (H : Heap) (Q : Exit → Env → Heap → Prop) : Prop where
  out : ∀ a w, Sat C.n l a → C.st H w → c.wp P (lift C Q) a w

def thenQ (N : Env → Heap → Prop) (Q : Exit → Env → Heap → Prop) : Exit → Env → Heap → Prop
  | .normal, l, H => N l H
  | e, l, H => Q e l H

def blockQ (id : Nat) (Q : Exit → Env → Heap → Prop) : Exit → Env → Heap → Prop
  | .exit i, l, H => if i = id then Q .normal l H else Q (.exit i) l H
  | e, l, H => Q e l H

theorem CW.mono {P : Program} {C : Cx} {c : Code} {l : Env} {H : Heap} {Q Q' : Exit → Env → Heap → Prop} (h : CW P C c l H Q) (hq : ∀ e l H, Q e l H → Q' e l H) : CW P C c l H Q' :=
  ⟨fun a w hs hw => wp_mono (h.out a w hs hw) fun _ _ _ ⟨l, H, h1, h2, h3⟩ => ⟨l, H, h1, h2, hq _ _ _ h3⟩⟩

theorem CW.weak {P : Program} {C : Cx} {c : Code} {l r : Env} {H : Heap} {Q : Exit → Env → Heap → Prop} (hs : SubE l r) (h : CW P C c r H Q) : CW P C c l H Q :=
  ⟨fun a w hsat hw => h.out a w (hsat.weak hs) hw⟩

theorem CW.perm {P : Program} {C : Cx} {c : Code} {l : Env} {H K : Heap} {Q : Exit → Env → Heap → Prop} (hp : H.Perm K) (h : CW P C c l K Q) : CW P C c l H Q :=
  ⟨fun a w hsat hw => h.out a w hsat (St.perm hw hp)⟩

theorem CW.less {P : Program} {C : Cx} {c : Code} {l : Env} {H K : Heap} {Q : Exit → Env → Heap → Prop} (hp : K.Sublist H) (h : CW P C c l K Q) : CW P C c l H Q :=
  ⟨fun a w hsat hw => h.out a w hsat (St.less hw hp)⟩

/-- Parts of a piece of code. -/
def fst : Code → Code
  | .seq a _ => a
  | .cond _ a _ => a
  | .block _ a => a
  | .loop a => a
  | .scope a => a
  | c => c
def snd : Code → Code
  | .seq _ b => b
  | .cond _ _ b => b
  | c => c
/-- The part of b at a path, its last step first. -/
def nv (b : Code) : List Bool → Code
  | [] => b
  | false :: p => fst (nv b p)
  | true :: p => snd (nv b p)

def bodyOf (f : Func) : Code := f.body.getD .skip

section
variable {P : Program} {C : Cx} {l : Env} {H : Heap} {Q : Exit → Env → Heap → Prop}

theorem cw_seq {x y : Code} (h : CW P C x l H (thenQ (fun l' H' => CW P C y l' H' Q) Q)) : CW P C (.seq x y) l H Q := by
  refine ⟨fun a w hs hw => ?_⟩
  refine wp_seq (wp_mono (h.out a w hs hw) fun e a' w' hq => ?_)
  obtain ⟨l', H', h1, h2, h3⟩ := hq
  cases e with
  | normal => exact h3.out a' w' h1 h2
  | _ => exact ⟨l', H', h1, h2, h3⟩

theorem cw_cond {c : Operand} {x y : Code} {t : Bool} (hc : ev l c = some (.bool t)) (h1 : t = true → CW P C x l H Q) (h2 : t = false → CW P C y l H Q) :
    CW P C (.cond c x y) l H Q :=
  ⟨fun a w hs hw => wp_cond_split (hs.eval hc) (fun ht => (h1 ht).out a w hs hw) (fun ht => (h2 ht).out a w hs hw)⟩

theorem cw_block {id : Nat} {c : Code} (h : CW P C c l H (blockQ id Q)) : CW P C (.block id c) l H Q := by
  refine ⟨fun a w hs hw => ?_⟩
  refine wp_block (wp_mono (h.out a w hs hw) fun e a' w' hq => ?_)
  obtain ⟨l', H', h1, h2, h3⟩ := hq
  cases e with
  | exit i =>
    simp only [blockQ] at h3
    simp only [Exit.inBlock]
    split <;> rename_i he
    · rw [if_pos he] at h3; exact ⟨l', H', h1, h2, h3⟩
    · rw [if_neg he] at h3; exact ⟨l', H', h1, h2, h3⟩
  | _ => exact ⟨l', H', h1, h2, h3⟩

theorem cw_skip (h : Q .normal l H) : CW P C .skip l H Q := ⟨fun _ _ hs hw => wp_skip ⟨l, H, hs, hw, h⟩⟩
theorem cw_label {i : Nat} (h : Q .normal l H) : CW P C (.label i) l H Q := ⟨fun _ _ hs hw => wp_label ⟨l, H, hs, hw, h⟩⟩
theorem cw_exit {i : Nat} (h : Q (.exit i) l H) : CW P C (.exit i) l H Q := ⟨fun _ _ hs hw => wp_exit ⟨l, H, hs, hw, h⟩⟩
theorem cw_ret (h : Q .ret l H) : CW P C .ret l H Q := ⟨fun _ _ hs hw => wp_ret ⟨l, H, hs, hw, h⟩⟩

/-- A loop: at each round's head a ghost g tells the frame and memory; a number falls. -/
theorem cw_loop {σ : Type} {c : Code} (E : σ → Env) (M : σ → Heap) (I : σ → Prop) (μ : σ → Nat) (g : σ) (h0 : I g) (hE : ∀ a, Sat C.n l a → Sat C.n (E g) a) (hM : H = M g)
    (round : ∀ g, I g → CW P C c (E g) (M g) (thenQ (fun l' H' => ∃ g', I g' ∧ SubE l' (E g') ∧ H' = M g' ∧ μ g' < μ g) Q)) : CW P C (.loop c) l H Q := by
  refine ⟨fun a w hs hw => ?_⟩
  have key : ∀ k g, μ g = k → I g → ∀ (a : Act) (w : World), Sat C.n (E g) a → C.st (M g) w → ∀ b q cs, ∃ e a' w', lift C Q e a' w' ∧ Arrives P (lone (b.at a (.code c :: .inLoop c :: q)) cs w) b q cs e a' w' := by
    intro k
    induction k using Nat.strongRecOn with
    | _ k ih =>
      intro g hk hI a w hs hw b q cs
      obtain ⟨e, a1, w1, ⟨l', H', s1, s2, s3⟩, harr⟩ := (round g hI).out a w hs hw b (.inLoop c :: q) cs
      cases e with
      | normal =>
        obtain ⟨g', i1, i2, i3, i4⟩ := s3
        subst i3
        obtain ⟨e2, a2, w2, r1, r2⟩ := ih (μ g') (hk ▸ i4) g' rfl i1 a1 w1 (s1.weak i2) s2 b q cs
        exact ⟨e2, a2, w2, r1, .of_steps (Steps.trans harr (.one step_inLoop)) r2⟩
      | exit id => exact ⟨_, a1, w1, ⟨l', H', s1, s2, s3⟩, .pass (x := .inLoop c) rfl (fun _ _ => .inl (by simp)) harr⟩
      | goto l => exact ⟨_, a1, w1, ⟨l', H', s1, s2, s3⟩, .pass (x := .inLoop c) rfl (fun _ _ => .inl (by simp)) harr⟩
      | ret => exact ⟨_, a1, w1, ⟨l', H', s1, s2, s3⟩, .pass (x := .inLoop c) rfl (fun _ _ => .inl (by simp)) harr⟩
      | panic ch => exact ⟨_, a1, w1, ⟨l', H', s1, s2, s3⟩, .pass (x := .inLoop c) rfl (fun _ _ => .inl (by simp)) harr⟩
      | outgrown => exact ⟨_, a1, w1, ⟨l', H', s1, s2, s3⟩, .pass (x := .inLoop c) rfl (fun _ _ => .inl (by simp)) harr⟩
  intro b q cs
  subst hM
  obtain ⟨e, a', w', hq, harr⟩ := key _ g rfl h0 a w (hE a hs) hw b q cs
  exact ⟨e, a', w', hq, .of_steps (.one step_loop) harr⟩
end

/-! Operations, one behind the other. -/

/-- The operation yields v and leaves the world alone. -/
structure Ev (P : Program) (C : Cx) (H : Heap) (l : Env) (o : Op) (ty : TypeId) (v : Value) : Prop where
  out : ∀ (a : Act) (w : World) (d : Option Tmp) (pos : String) (af : Array Edge) (g : Option (Nat × Bool)), Sat C.n l a → C.st H w →
    (execOp a.eval ⟨d, o, ty, pos, af, g⟩).run P w = .ok (.value v) w

structure OL (P : Program) (C : Cx) (ops : Array Oper) (rest : List Oper) (l : Env) (H : Heap) (Q : Exit → Env → Heap → Prop) : Prop where
  out : ∀ a w, Sat C.n l a → C.st H w → wpList P ops (lift C Q) rest a w

structure SL (P : Program) (C : Cx) (ops : Array Oper) (rest : List Oper) (l : Env) (H : Heap) (K : Env → Prop) : Prop where
  out : ∀ a w, Sat C.n l a → C.st H w → wpStill P ops w (fun a' => ∃ l', Sat C.n l' a' ∧ K l') rest a

/-- The slot of a guard. -/
def gslot (ops : Array Oper) (j : Nat) : Option Nat := (ops[j]?).bind (·.dst)

theorem yielded_of {n : Nat} {ops : Array Oper} {l : Env} {a : Act} {j t : Nat} {b : Bool} (h : Sat n l a) (hj : gslot ops j = some t) (ht : look l t = some (.bool b)) (hn : t < n) :
    yielded ops a.tmps j = some b := by
  have h1 := h.has t _ ht
  have hs := h.size
  unfold yielded
  rw [show ((ops[j]?).bind (·.dst)) = some t from hj]
  have h2 : a.tmps[t]? = some (.bool b) := by
    have : t < a.tmps.size := by omega
    simp only [Array.getD_eq_getD_getElem?] at h1
    rw [Array.getElem?_eq_getElem this] at h1 ⊢
    simpa using h1
  simp [h2]

section
variable {P : Program} {C : Cx} {ops : Array Oper} {rest : List Oper} {l : Env} {H : Heap} {Q : Exit → Env → Heap → Prop} {K : Env → Prop}
variable {o : Op} {ty : TypeId} {pos : String} {af : Array Edge} {v : Value} {d : Nat}

theorem ol_nil (h : Q .normal l H) : OL P C ops [] l H Q := ⟨fun _ _ hs hw => ⟨l, H, hs, hw, h⟩⟩

theorem ol_ev (h : Ev P C H l o ty v) (hd : Nat.ble (d + 1) C.n = true) (k : OL P C ops rest ((d, v) :: l) H Q) : OL P C ops (⟨some d, o, ty, pos, af, none⟩ :: rest) l H Q := by
  refine ⟨fun a w hs hw => ?_⟩
  unfold wpList
  rw [show Region.wanted ⟨some d, o, ty, pos, af, none⟩ (yielded ops a.tmps) = true from rfl, if_pos rfl]
  left
  unfold Oper.wp
  rw [h.out a w _ _ _ _ hs hw]
  exact k.out _ w (hs.put (Nat.le_of_ble_eq_true hd) v) hw

theorem ol_ev_on {j t : Nat} {b : Bool} (hj : gslot ops j = some t) (ht : look l t = some (.bool b)) (h : Ev P C H l o ty v) (hd : Nat.ble (d + 1) C.n = true) (hn : Nat.ble (t + 1) C.n = true)
    (k : OL P C ops rest ((d, v) :: l) H Q) : OL P C ops (⟨some d, o, ty, pos, af, some (j, b)⟩ :: rest) l H Q := by
  refine ⟨fun a w hs hw => ?_⟩
  unfold wpList
  have : Region.wanted ⟨some d, o, ty, pos, af, some (j, b)⟩ (yielded ops a.tmps) = true := by
    simp [Region.wanted, yielded_of hs hj ht (Nat.le_of_ble_eq_true hn)]
  rw [this, if_pos rfl]
  left
  unfold Oper.wp
  rw [h.out a w _ _ _ _ hs hw]
  exact k.out _ w (hs.put (Nat.le_of_ble_eq_true hd) v) hw

theorem ol_off {j t : Nat} {b c : Bool} (hj : gslot ops j = some t) (ht : look l t = some (.bool c)) (hne : (c == b) = false) (hd : Nat.ble (d + 1) C.n = true) (hn : Nat.ble (t + 1) C.n = true)
    (k : OL P C ops rest ((d, undef) :: l) H Q) : OL P C ops (⟨some d, o, ty, pos, af, some (j, b)⟩ :: rest) l H Q := by
  refine ⟨fun a w hs hw => ?_⟩
  unfold wpList
  have : Region.wanted ⟨some d, o, ty, pos, af, some (j, b)⟩ (yielded ops a.tmps) = false := by
    simp only [Region.wanted, yielded_of hs hj ht (Nat.le_of_ble_eq_true hn)]
    cases c <;> cases b <;> simp_all
  rw [this, if_neg (by simp)]
  exact k.out _ w (hs.put (Nat.le_of_ble_eq_true hd) undef) hw

theorem sl_nil (h : K l) : SL P C ops [] l H K := ⟨fun _ _ hs _ => ⟨l, hs, h⟩⟩

theorem sl_ev (h : Ev P C H l o ty v) (hd : Nat.ble (d + 1) C.n = true) (k : SL P C ops rest ((d, v) :: l) H K) : SL P C ops (⟨some d, o, ty, pos, af, none⟩ :: rest) l H K := by
  refine ⟨fun a w hs hw => ?_⟩
  unfold wpStill
  rw [show Region.wanted ⟨some d, o, ty, pos, af, none⟩ (yielded ops a.tmps) = true from rfl, if_pos rfl]
  unfold Oper.still
  rw [h.out a w _ _ _ _ hs hw]
  exact ⟨rfl, k.out _ w (hs.put (Nat.le_of_ble_eq_true hd) v) hw⟩

theorem sl_ev_on {j t : Nat} {b : Bool} (hj : gslot ops j = some t) (ht : look l t = some (.bool b)) (h : Ev P C H l o ty v) (hd : Nat.ble (d + 1) C.n = true) (hn : Nat.ble (t + 1) C.n = true)
    (k : SL P C ops rest ((d, v) :: l) H K) : SL P C ops (⟨some d, o, ty, pos, af, some (j, b)⟩ :: rest) l H K := by
  refine ⟨fun a w hs hw => ?_⟩
  unfold wpStill
  have : Region.wanted ⟨some d, o, ty, pos, af, some (j, b)⟩ (yielded ops a.tmps) = true := by
    simp [Region.wanted, yielded_of hs hj ht (Nat.le_of_ble_eq_true hn)]
  rw [this, if_pos rfl]
  unfold Oper.still
  rw [h.out a w _ _ _ _ hs hw]
  exact ⟨rfl, k.out _ w (hs.put (Nat.le_of_ble_eq_true hd) v) hw⟩

theorem sl_off {j t : Nat} {b c : Bool} (hj : gslot ops j = some t) (ht : look l t = some (.bool c)) (hne : (c == b) = false) (hd : Nat.ble (d + 1) C.n = true) (hn : Nat.ble (t + 1) C.n = true)
    (k : SL P C ops rest ((d, undef) :: l) H K) : SL P C ops (⟨some d, o, ty, pos, af, some (j, b)⟩ :: rest) l H K := by
  refine ⟨fun a w hs hw => ?_⟩
  unfold wpStill
  have : Region.wanted ⟨some d, o, ty, pos, af, some (j, b)⟩ (yielded ops a.tmps) = false := by
    simp only [Region.wanted, yielded_of hs hj ht (Nat.le_of_ble_eq_true hn)]
    cases c <;> cases b <;> simp_all
  rw [this, if_neg (by simp)]
  exact k.out _ w (hs.put (Nat.le_of_ble_eq_true hd) undef) hw

/-- A region in the order of its text. -/
theorem cw_region {id : Nat} {os : List Oper} (h : OL P C os.toArray os l H Q) : CW P C (.region id os.toArray false) l H Q :=
  ⟨fun a w hs hw => wp_region_lit (h.out a w hs hw)⟩

/-- A region whose order is open, all of whose operations leave the world alone. -/
theorem cw_still {id : Nat} {os : List Oper} (hm : P.follows .mixedOrders = true) (hB : Region.lexB .any os.toArray = true)
    (h : SL P C os.toArray os l H (fun l' => Q .normal l' H)) : CW P C (.region id os.toArray true) l H Q := by
  refine ⟨fun a w hs hw => ?_⟩
  have hw' : C.st H { w with drawn := w.drawn + 1 } := St.drew hw
  refine wp_region_still_lit hm hB ?_
  have := h.out a _ hs hw'
  refine (show ∀ (K K' : Act → Prop), (∀ a, K a → K' a) → ∀ (r : List Oper) (a : Act), wpStill P os.toArray { w with drawn := w.drawn + 1 } K r a → wpStill P os.toArray { w with drawn := w.drawn + 1 } K' r a from ?_) _ _ ?_ os a this
  · intro K K' hk r
    induction r with
    | nil => intro a h; exact hk a h
    | cons o r ih =>
      intro a h
      unfold wpStill at h ⊢
      split <;> rename_i hw <;> simp only [hw, if_true] at h
      · exact Oper.still_mono (fun a h => ih a h) h
      · exact ih _ h
  · rintro a' ⟨l', h1, h2⟩
    exact ⟨l', H, h1, hw', h2⟩
end
end Go.HE
