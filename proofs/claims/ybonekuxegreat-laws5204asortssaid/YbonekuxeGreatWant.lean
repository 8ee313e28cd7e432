/-
  The rows while the law sorts for itself; the tree.
-/
import Derived.Test.YbonekuxeGreatMake
namespace Go.Proofs.YbonekuxeGreat
open Go.RowKit Go.Deep Go.Proofs.YbonekuxeGreat.Plain

theorem rc_one (d : Nat → El) (q : Nat) : (rc d q).oneCell' = true := by
  unfold rc ecell
  repeat' split
  all_goals rfl

/-- the cells of the tree -/
def tc (G : Nat) : Array Value := Array.replicate 257 (Value.pointer none) ++ #[.slice (some ⟨G, 0, none⟩) 1 1, .int .u8 0]
set_option maxRecDepth 100000 in
theorem run_build49 (G : Nat) (w : World) : (Instr.build 49 #[(2, .slice (some ⟨G, 0, none⟩) 1 1)]).run Ybgs.prog w = .ok (.agg (tc G)) w := by kernel_rfl
theorem tc_257 (G : Nat) : (tc G)[257]? = some (.slice (some ⟨G, 0, none⟩) 1 1) := by
  unfold tc
  rw [Array.getElem?_append_right (by simp)]
  simp

theorem wpList_build_at {P : Program} {w : World} {ops : Array Oper} {rest : List Oper} {o : Oper} {a : Act} {Q : Exit → Act → World → Prop} (hgd : o.guard = none) (t : TypeId) (parts : Array (Nat × Operand)) (ho : o.op = .build t parts)
    (vs : Array (Nat × Value)) (hv : (parts.toList.map fun p => (p.1, a.eval p.2)) = vs.toList) (v : Value) (hr : (Instr.build t vs).run P w = .ok v w)
    (h : wpList P ops Q rest (a.put o.dst v) w) : wpList P ops Q (o :: rest) a w := by
  refine wpList_plain hgd fun K hK => ?_
  have hv : (parts.map fun (i, x) => (i, a.eval x)) = vs := by
    apply Array.toList_inj.1
    rw [Array.toList_map, ← hv]
  unfold Oper.wp execOp
  simp only [ho, hv, Sem.run_bind, hr, Result.andThen_ok, Sem.run_pure]
  exact hK _ _ h

/-- '&T{..}', its cells known: a new block. -/
theorem wpList_box_at {P : Program} {w : World} {ops : Array Oper} {rest : List Oper} {o : Oper} {a : Act} {Q : Exit → Act → World → Prop} (hgd : o.guard = none) (t : TypeId) (x : Operand) (ho : o.op = .box t x)
    (c : Array Value) (hx : a.eval x = .agg c)
    (h : wpList P ops Q rest (a.put o.dst (.pointer (some ⟨w.heap.size, 0, none⟩))) (w.alloc (.cells c t))) : wpList P ops Q (o :: rest) a w := by
  refine wpList_plain hgd fun K hK => ?_
  unfold Oper.wp execOp
  simp [ho, hx, Instr.box, newVar, Value.cells]
  exact hK _ _ h

/-- what stands while the law sorts -/
structure Wn (w W : World) (Ob Sb Rb Wb n : Nat) (key : Nat → ByteArray) (Cd : Nat → Nat) (e : Nat → El) : Prop where
  bl : Bl w W Ob Sb Rb n n key Cd
  rw : W.rowIs Wb 41 (n * 5) (rc e)
  oW : w.heap.size ≤ Wb
  wO : Wb ≠ Ob
  wS : Wb ≠ Sb
  wR : Wb ≠ Rb

theorem Wn.more {w W W' : World} {Ob Sb Rb Wb n : Nat} {key : Nat → ByteArray} {Cd : Nat → Nat} {e : Nat → El} (h : Wn w W Ob Sb Rb Wb n key Cd e) (hg : W.grownBy W' none) : Wn w W' Ob Sb Rb Wb n key Cd e :=
  ⟨h.bl.more hg (fun b hb => by cases hb), row_stay h.rw hg (by simp), h.oW, h.wO, h.wS, h.wR⟩

/-- the whole row of the wanted order rewritten -/
theorem Wn.row {w W W' : World} {Ob Sb Rb Wb n : Nat} {key : Nat → ByteArray} {Cd : Nat → Nat} {e e' : Nat → El} (h : Wn w W Ob Sb Rb Wb n key Cd e) (hg : W.grownBy W' (some Wb)) (hr : W'.rowIs Wb 41 (n * 5) (rc e')) : Wn w W' Ob Sb Rb Wb n key Cd e' :=
  ⟨h.bl.more hg (fun b hb => by
    have : Wb = b := by simpa using hb
    subst this
    exact ⟨h.oW, h.wO, h.wS, h.wR⟩), hr, h.oW, h.wO, h.wS, h.wR⟩

theorem grown_undrew {W X : World} {row : Option Nat} (h : W.grownBy X.drew row) : W.grownBy X row := ⟨h.os, h.tape, h.output, h.size, h.block⟩
theorem row_undrew {X : World} {g t N : Nat} {f : Nat → Value} (h : X.drew.rowIs g t N f) : X.rowIs g t N f := h

/-- an exchange of two neighbours by way of a third -/
theorem Wn.swap {w W : World} {Ob Sb Rb Wb n p q A Z : Nat} {key : Nat → ByteArray} {Cd : Nat → Nat} {e : Nat → El} (h : Wn w W Ob Sb Rb Wb n key Cd e) (hne : p ≠ q) (hA : p * 5 = A) (hZ : q * 5 = Z) :
    Wn w ((((((((((W.setCell ⟨Wb, A, none⟩ (.int .u64 (e q).h)).setCell ⟨Wb, A + 1, none⟩ (.int .u32 0)).setCell ⟨Wb, A + 2, none⟩ (.int .u32 (e q).i)).setCell ⟨Wb, A + 3, none⟩ (.int .u8 (e q).c)).setCell ⟨Wb, A + 4, none⟩ (.bool (e q).l)).setCell ⟨Wb, Z, none⟩ (.int .u64 (e p).h)).setCell
      ⟨Wb, Z + 1, none⟩ (.int .u32 0)).setCell ⟨Wb, Z + 2, none⟩ (.int .u32 (e p).i)).setCell ⟨Wb, Z + 3, none⟩ (.int .u8 (e p).c)).setCell ⟨Wb, Z + 4, none⟩ (.bool (e p).l)) Ob Sb Rb Wb n key Cd (swapAt e p q) := by
  obtain ⟨h1, h2⟩ := swap_step h.rw (World.grownBy.refl W (some Wb)) hne hA hZ
  exact h.row (grown_undrew h2) (row_undrew h1)

/-- what the law's own comparison says -/
theorem less_yes {key : Nat → ByteArray} {x y : El} (h : x.c < y.c ∨ (x.c = y.c ∧ cb (key x.i).data.toList (key y.i).data.toList < 0)) : RW key x y := by
  unfold RW RK
  rcases h with h | h
  · exact .inl h
  · exact .inr ⟨h.1, .inl h.2⟩

theorem less_no {key : Nat → ByteArray} {x y : El} (hi : y.i < x.i) (h : ¬ (x.c < y.c ∨ (x.c = y.c ∧ cb (key x.i).data.toList (key y.i).data.toList < 0))) : RW key y x := by
  unfold RW RK
  have hs := cb_swap (key x.i).data.toList (key y.i).data.toList
  rcases Nat.lt_trichotomy x.c y.c with h1 | h1 | h1
  · exact absurd (.inl h1) h
  · refine .inr ⟨h1.symm, ?_⟩
    have : ¬ cb (key x.i).data.toList (key y.i).data.toList < 0 := fun hh => h (.inr ⟨h1, hh⟩)
    omega
  · exact .inl h1

theorem elOf_made {key : Nat → ByteArray} {Cd : Nat → Nat} {n k : Nat} (hk : k < n) (hc : Cd k < 256) (hz : noZero (key k).data.toList) : Made key n (elOf key Cd k) := ⟨hk, hc, rfl, rfl, hz⟩

end Go.Proofs.YbonekuxeGreat
