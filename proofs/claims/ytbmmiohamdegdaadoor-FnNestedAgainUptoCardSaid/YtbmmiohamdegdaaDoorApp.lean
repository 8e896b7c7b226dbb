/- append to no slice. No condition: a lemma of our own. -/
import Derived.Test.YtbmmiohamdegdaaDoorMem
set_option maxRecDepth 100000
namespace Go.HE
open Go.RowKit
section
variable {P : Program} {C : Cx} {ops : Array Oper} {rest : List Oper} {l : Env} {H : Heap} {Q : Exit → Env → Heap → Prop} {ty t e : TypeId} {pos : String} {af : Array Edge} {d : Nat} {x y : Operand}
/-- append(nil, y...), y not empty, its elements of one cell. -/
theorem ol_append_nil {zv : Value} {bb b2 off2 m cap2 : Nat} {o2 : HO} {ys : List Value} [hT : TSlice P t e] [hI : TInfo P e zv 1 bb] (hx : ev l x = some (.slice none 0 0)) (hy : ev l y = some (.slice (some ⟨b2, off2, none⟩) m cap2))
    (h2 : (b2, o2) ∈ H) (hyl : ys.length = m) (hv : (o2.cells.drop off2).take ys.length = ys) (hz : zv.cells = #[zv]) (h0 : 0 < m) (hb : m * bb ≤ 140737488355328) (h63 : m ≤ 9223372036854775807) (hd : Nat.ble (d + 1) C.n = true)
    (k : ∀ b' sp', OL P C ops rest ((d, .slice (some ⟨b', 0, none⟩) m (ys.length + sp'.length)) :: l) ((b', ⟨ys ++ sp', e, (0, 0)⟩) :: H) Q) :
    OL P C ops (⟨some d, .call ⟨.builtin .append, #[x, y], #[t, t]⟩, ty, pos, af, none⟩ :: rest) l H Q := by
  refine ol_val (R := fun u K' => ∃ b' sp', u = .slice (some ⟨b', 0, none⟩) m (ys.length + sp'.length) ∧ K' = (b', ⟨ys ++ sp', e, (0, 0)⟩) :: H) hd (fun a w hs hw => ?_) (by rintro u K' ⟨b', sp', rfl, rfl⟩; exact k b' sp')
  obtain ⟨i, hi, hz1, hz2, hz3⟩ := hI.get
  have hnews : ∀ j u, ys[j]? = some u → w.cell? ((Addr.mk b2 off2 none).add j) = some u := fun j u hj => by
    rw [add_none]
    have hlt : j < ys.length := (List.getElem?_eq_some_iff.1 hj).1
    rw [← hv, List.getElem?_take_of_lt hlt, List.getElem?_drop] at hj
    simp [World.cell?, hw.own.has b2 o2 h2, HO.obj, hj]
  have hrun := run_append_nil (P := P) w t ty e i zv hT.h hi hz1 ⟨b2, off2, none⟩ m cap2 ys (by rw [hz2]; omega) hnews h0 (by omega) (by rw [hz3]; omega)
  rw [hz, zeroCells_one] at hrun
  have hge : m ≤ grownCap w m 0 e := by simp [grownCap, Question.cut]
  refine ⟨_, _, _, ?_, (St.drew hw).alloc ⟨ys ++ List.replicate (grownCap w m 0 e - m) zv, e, (0, 0)⟩, w.heap.size, List.replicate (grownCap w m 0 e - m) zv, rfl, rfl⟩
  have e1 : ys.length + (List.replicate (grownCap w m 0 e - m) zv).length = grownCap w m 0 e := by simp; omega
  rw [e1]
  simp only [execOp, resolve, invoke, builtin, Sem.run_bind, hs.eval hx, hs.eval hy, List.map_toArray, List.map_cons, List.map_nil, Sem.run_pure, Result.andThen_ok, hrun, List.append_toArray, HO.obj]
  rfl
/-- append to an empty slice without room, y not empty, its elements of one cell. -/
theorem ol_append0 {p : Addr} {zv : Value} {bb b2 off2 m cap2 : Nat} {o2 : HO} {ys : List Value} [hT : TSlice P t e] [hI : TInfo P e zv 1 bb] (hx : ev l x = some (.slice (some p) 0 0)) (hy : ev l y = some (.slice (some ⟨b2, off2, none⟩) m cap2))
    (h2 : (b2, o2) ∈ H) (hyl : ys.length = m) (hv : (o2.cells.drop off2).take ys.length = ys) (hz : zv.cells = #[zv]) (h0 : 0 < m) (hb : m * bb ≤ 140737488355328) (h63 : m ≤ 9223372036854775807) (hd : Nat.ble (d + 1) C.n = true)
    (k : ∀ b' sp', OL P C ops rest ((d, .slice (some ⟨b', 0, none⟩) m (ys.length + sp'.length)) :: l) ((b', ⟨ys ++ sp', e, (0, 0)⟩) :: H) Q) :
    OL P C ops (⟨some d, .call ⟨.builtin .append, #[x, y], #[t, t]⟩, ty, pos, af, none⟩ :: rest) l H Q := by
  refine ol_val (R := fun u K' => ∃ b' sp', u = .slice (some ⟨b', 0, none⟩) m (ys.length + sp'.length) ∧ K' = (b', ⟨ys ++ sp', e, (0, 0)⟩) :: H) hd (fun a w hs hw => ?_) (by rintro u K' ⟨b', sp', rfl, rfl⟩; exact k b' sp')
  obtain ⟨i, hi, hz1, hz2, hz3⟩ := hI.get
  have hnews : ∀ j u, ys[j]? = some u → w.cell? ((Addr.mk b2 off2 none).add j) = some u := fun j u hj => by
    rw [add_none]
    have hlt : j < ys.length := (List.getElem?_eq_some_iff.1 hj).1
    rw [← hv, List.getElem?_take_of_lt hlt, List.getElem?_drop] at hj
    simp [World.cell?, hw.own.has b2 o2 h2, HO.obj, hj]
  have hg : 0 < 0 + m := by omega
  have hrun := run_append_grow (P := P) w t ty e i zv hT.h hi hz1 p 0 0 [] (by simp) (fun j u hj => by simp at hj) ⟨b2, off2, none⟩ m cap2 ys (by rw [hz2]; omega) hnews hg (by omega)
    (by rw [hz3]; exact growslice_fits hg (by simpa using hb))
  rw [hz, zeroCells_one] at hrun
  simp only [Nat.zero_add] at hrun
  have hge : m ≤ grownCap w m 0 e := by simp [grownCap, Question.cut]
  refine ⟨_, _, _, ?_, (St.drew hw).alloc ⟨ys ++ List.replicate (grownCap w m 0 e - m) zv, e, (0, 0)⟩, w.heap.size, List.replicate (grownCap w m 0 e - m) zv, rfl, rfl⟩
  have e1 : ys.length + (List.replicate (grownCap w m 0 e - m) zv).length = grownCap w m 0 e := by simp; omega
  rw [e1]
  simp only [execOp, resolve, invoke, builtin, Sem.run_bind, hs.eval hx, hs.eval hy, List.map_toArray, List.map_cons, List.map_nil, Sem.run_pure, Result.andThen_ok, hrun, List.append_toArray, HO.obj, List.nil_append]
  rfl
end
end Go.HE
