/- A slice of three values, and append of zeros. No condition: lemmas of our own. -/
import Derived.Test.YtbmmiohamdegdaaDoorMem
import Derived.Lib.AppendZerosOnto
set_option maxRecDepth 100000
namespace Go.HE
open Go.RowKit
section
variable {P : Program} {C : Cx} {ops : Array Oper} {rest : List Oper} {l : Env} {H : Heap} {Q : Exit → Env → Heap → Prop} {ty t tn e : TypeId} {pos : String} {af : Array Edge} {d : Nat} {x y z : Operand} {v0 v1 v2 : Value}
theorem ol_slice3 {zv : Value} {bb : Nat} [hT : TSlice P t e] [hI : TInfo P e zv 1 bb] (hx : ev l x = some v0) (hy : ev l y = some v1) (hzz : ev l z = some v2) (h0 : v0.cells = #[v0]) (h1 : v1.cells = #[v1]) (h2 : v2.cells = #[v2]) (hz : zv.cells = #[zv]) (hd : Nat.ble (d + 1) C.n = true)
    (k : ∀ b, OL P C ops rest ((d, .slice (some ⟨b, 0, none⟩) 3 3) :: l) ((b, ⟨[v0, v1, v2], e, (0, 0)⟩) :: H) Q) : OL P C ops (⟨some d, .buildSlice t 3 #[(0, x), (1, y), (2, z)], ty, pos, af, none⟩ :: rest) l H Q := by
  refine ol_val (R := fun u K => ∃ b, u = .slice (some ⟨b, 0, none⟩) 3 3 ∧ K = (b, ⟨[v0, v1, v2], e, (0, 0)⟩) :: H) hd (fun a w hs hw => ?_) (by rintro u K ⟨b, rfl, rfl⟩; exact k b)
  refine ⟨_, _, _, ?_, St.alloc hw ⟨[v0, v1, v2], e, (0, 0)⟩, _, rfl, rfl⟩
  simp [execOp, hs.eval hx, hs.eval hy, hs.eval hzz, Instr.buildSlice, run_underlying_eq hT.h, run_sizeOf_eq hI, run_zeroValue_eq hI, hz, Instr.fill, h0, h1, h2, newRow, HO.obj]
  congr 2
  apply Array.ext
  · simp
  · intro i h1 h2
    have : i = 0 ∨ i = 1 ∨ i = 2 := by simp at h2; omega
    rcases this with rfl | rfl | rfl <;> simp
/-- append(x, make(.., m)...), x a row of the call's own that it fills. -/
theorem ol_append_zeros {kn : IntKind} {zv : Value} {bb n b m : Nat} {xs : List Value} {K : Nat → HO → Heap} [hT : TSlice P t e] [hI : TInfo P e zv 1 bb] [hN : TInt P tn kn] (hx : ev l x = some (.slice (some ⟨b, 0, none⟩) n n)) (hy : ev l y = some (.int .i64 (m : Int)))
    (hr : ∀ b' o', Rp H b ⟨xs, e, (0, 0)⟩ b' o' (K b' o')) (hxl : xs.length = n) (hz : zv.cells = #[zv]) (hb : (n + m) * bb ≤ 140737488355328) (h63 : n + m ≤ 4611686018427387904) (hd : Nat.ble (d + 1) C.n = true)
    (k : ∀ b' sp', OL P C ops rest ((d, .slice (some ⟨b', 0, none⟩) (n + m) ((xs ++ List.replicate m zv).length + sp'.length)) :: l) (K b' ⟨(xs ++ List.replicate m zv) ++ sp', e, (0, 0)⟩) Q) :
    OL P C ops (⟨some d, .call ⟨.builtin .append, #[x, y], #[t, tn]⟩, ty, pos, af, none⟩ :: rest) l H Q := by
  refine ol_val (R := fun u K' => ∃ b' sp', u = .slice (some ⟨b', 0, none⟩) (n + m) ((xs ++ List.replicate m zv).length + sp'.length) ∧ K' = K b' ⟨(xs ++ List.replicate m zv) ++ sp', e, (0, 0)⟩) hd (fun a w hs hw => ?_) (by rintro u K' ⟨b', sp', rfl, rfl⟩; exact k b' sp')
  obtain ⟨i, hi, hz1, hz2, hz3⟩ := hI.get
  have hm := (hr b ⟨xs, e, (0, 0)⟩).mem
  have hown := hw.own.has b _ hm
  by_cases h0 : m = 0
  · subst h0
    have hu := (hr b ⟨xs, e, (0, 0)⟩).upd
    refine ⟨.slice (some ⟨b, 0, none⟩) n n, _, w, ?_, ?_, b, [], ?_, rfl⟩
    · have hw0 : IntKind.i64.wrap (0 : Int) = 0 := by decide
      have hs0 : (storeCells ((Addr.mk b 0 none).add (n * 1)) []).run P w = .ok () w := by simp [storeCells]
      simp [execOp, resolve, invoke, builtin, Builtin.append_, hs.eval hx, hs.eval hy, run_underlying_eq hT.h, run_underlying_eq hN.h, run_sizeOf_eq hI, typeInfo, hi, asInt, asIntOf, hw0, storeCells]
    · have e1 : (xs ++ List.replicate 0 zv) ++ [] = xs := by simp
      rw [e1]
      have hself : ∀ {H K : Heap}, Upd H b ⟨xs, e, (0, 0)⟩ ⟨xs, e, (0, 0)⟩ K → K = H := by
        intro H
        induction H with
        | nil => intro K h; cases h
        | cons p H ih =>
          intro K h
          rcases h with ⟨h1, h2, rfl⟩ | ⟨K', rfl, h'⟩
          · obtain ⟨p1, p2⟩ := p
            simp only at h1 h2
            rw [h1, h2]
          · rw [ih h']
      rw [hself hu]
      exact hw
    · simp [hxl]
  · have hg : n < n + m := by omega
    have holds : ∀ j u, xs[j]? = some u → w.drew.cell? ((Addr.mk b 0 none).add j) = some u := fun j u hj => by
      rw [add_none]
      have : w.drew.cell? ⟨b, 0 + j, none⟩ = w.cell? ⟨b, 0 + j, none⟩ := rfl
      rw [this]
      simp [World.cell?, hown, HO.obj, hj]
    have hold := run_firstCells_some (P := P) w.drew i.size n ⟨b, 0, none⟩ n n xs (by rw [hz2]; omega) holds
    have hrun := Go.Lib.run_append_grow_zeros w t tn ty e i zv .i64 kn hT.h hN.h hi hz1 (some ⟨b, 0, none⟩) n n xs hold m (by omega) (by omega) hg (by omega) (by rw [hz3]; have : m * bb ≤ (n + m) * bb := Nat.mul_le_mul_right _ (by omega); omega)
      (by rw [hz3]; exact growslice_fits hg hb)
    rw [hz, zeroCells_one, zeroCells_one] at hrun
    obtain ⟨J, hj1, hj2⟩ := (hr w.heap.size ⟨(xs ++ List.replicate m zv) ++ List.replicate (grownCap w (n + m) n e - (n + m)) zv, e, (0, 0)⟩).perm
    have hge : n + m ≤ grownCap w (n + m) n e := by simp [grownCap, Question.cut]
    refine ⟨_, _, _, ?_, (((St.drew hw).alloc ⟨(xs ++ List.replicate m zv) ++ List.replicate (grownCap w (n + m) n e - (n + m)) zv, e, (0, 0)⟩).less (hj1.cons_cons _)).perm hj2.symm, w.heap.size, _, rfl, rfl⟩
    have e1 : (xs ++ List.replicate m zv).length + (List.replicate (grownCap w (n + m) n e - (n + m)) zv).length = grownCap w (n + m) n e := by simp; omega
    rw [e1]
    simp only [execOp, resolve, invoke, builtin, Sem.run_bind, hs.eval hx, hs.eval hy, List.map_toArray, List.map_cons, List.map_nil, Sem.run_pure, Result.andThen_ok, hrun, List.append_toArray, HO.obj]
    rfl
end
end Go.HE
