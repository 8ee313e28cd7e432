/-
  Aids for the walks of LawS5209BFirstMatch and LawS5209CNack.
-/
import Derived.WalkKit
import Derived.WalkSpells
import Derived.WalkLawsBesides
import Derived.Deep.OwnRows
import Derived.Deep.WholeRow
namespace Go.Proofs.Ybulkdcvw.Aid
open Go.RowKit Go.Deep

theorem Hid.mk' {p : Prop} (h : p) : Hid p := h

/-- A row stays while everything below a bound stays. -/
theorem rowIs_below {B b : Nat} {w w' : World} {t : TypeId} {n : Nat} {f : Nat → Value} (h : w.rowIs b t n f) (hb : Below B w w') (hB : b < B) : w'.rowIs b t n f :=
  h.of_block (hb.block b hB)

/-- What 'make' lays for elements of whatever width. -/
theorem rowIs_made_wide (w : World) (z : Array Value) (n : Nat) (t : TypeId) : (w.alloc (.cells (madeCells z n) t)).rowIs w.heap.size t n (fun i => z[i % z.size]!) :=
  ⟨_, blk_alloc_new _ _, size_madeCells _ _, fun i hi => by simp [madeCells, hi]⟩

/-- A whole struct into the block that was made last. -/
theorem wpList_store_new {P : Program} {w : World} {ops : Array Oper} {rest : List Oper} {o : Oper} {a : Act} {Q : Exit → Act → World → Prop} (hgd : o.guard = none) (t : TypeId) (x y : Operand) (ho : o.op = .store t x y)
    (c c' : Array Value) (hx : a.eval x = .pointer (some ⟨w.heap.size, 0, none⟩)) (hy : a.eval y = .agg c') (hi : (P.info? t).map (·.size) = some c'.size) (hs : c.size = c'.size) (h1 : c'.toList.all (·.oneCell') = true)
    (h : wpList P ops Q rest (a.put o.dst undef) (w.alloc (.cells c' t))) : wpList P ops Q (o :: rest) a (w.alloc (.cells c t)) := by
  refine wpList_plain hgd fun K hK => ?_
  unfold Oper.wp execOp
  simp only [ho, hx, hy, Instr.storeAt, Instr.sureAddr, Sem.run_bind, Sem.run_pure, Result.andThen_ok, run_storeVar_new w t c c' hi hs (by rw [← Array.all_toList]; exact h1)]
  exact hK _ _ h

/-- A composite literal, its value known. -/
theorem wpList_build_at {P : Program} {w : World} {ops : Array Oper} {rest : List Oper} {o : Oper} {a : Act} {Q : Exit → Act → World → Prop} (hgd : o.guard = none) (t : TypeId) (parts : Array (Nat × Operand)) (ho : o.op = .build t parts)
    (vs : Array (Nat × Value)) (hv : (parts.toList.map fun p => (p.1, a.eval p.2)) = vs.toList) (v : Value) (hr : (Instr.build t vs).run P w = .ok v w)
    (h : wpList P ops Q rest (a.put o.dst v) w) : wpList P ops Q (o :: rest) a w := by
  refine wpList_plain hgd fun K hK => ?_
  have hv : (parts.map fun (i, x) => (i, a.eval x)) = vs := by
    apply Array.toList_inj.1
    rw [Array.toList_map, ← hv]
  unfold Oper.wp execOp
  simp only [ho, hv, Sem.run_bind, hr, Result.andThen_ok, Sem.run_pure]
  exact hK _ _ h

end Go.Proofs.Ybulkdcvw.Aid
