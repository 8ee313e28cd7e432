/-
  Small aids for the walks of LawS5203BFilter: own rows told by an index function, and a copy of rows whose elements are wider than one cell.
-/
import Derived.WalkKit
import Derived.WalkSpells
import Derived.WalkLawsBesides
import Derived.Deep.OwnRows
namespace Go.Proofs.Ybulkdcsq.Aid
open Go.RowKit Go.Deep

/-- A row stays while everything below a bound stays. -/
theorem rowIs_below {B b : Nat} {w w' : World} {t : TypeId} {n : Nat} {f : Nat → Value} (h : w.rowIs b t n f) (hb : Below B w w') (hB : b < B) : w'.rowIs b t n f :=
  h.of_block (hb.block b hB)

/-- A row stays behind a law that ends in 'grownBy' and writes another row. -/
theorem rowIs_grown {b : Nat} {w w' : World} {t : TypeId} {n : Nat} {f : Nat → Value} {row : Option Nat} (h : w.rowIs b t n f) (hg : w.grownBy w' row) (hne : some b ≠ row) : w'.rowIs b t n f :=
  h.of_block (hg.block b h.lt hne)

/-- What 'make' lays for elements of whatever width. -/
theorem rowIs_made_wide (w : World) (z : Array Value) (n : Nat) (t : TypeId) : (w.alloc (.cells (madeCells z n) t)).rowIs w.heap.size t n (fun i => z[i % z.size]!) :=
  ⟨_, blk_alloc_new _ _, size_madeCells _ _, fun i hi => by simp [madeCells, hi]⟩

theorem cell_one_new2 (w : World) (o : Obj) (x : Value) (t : TypeId) : ∀ j u, [x][j]? = some u → ((w.alloc o).alloc (.cells #[x] t)).cell? ((⟨w.heap.size + 1, 0, none⟩ : Addr).add j) = some u := by
  have h := cell_one_new (w.alloc o) x t
  simpa using h

theorem ownsRow_below {w w' : World} {base : Nat} {e : TypeId} {size : Nat} {v : Value} {n : Nat} {xs : List Value} (h : w.ownsRow base e size v n xs) (hb : Below w.heap.size w w') : w'.ownsRow base e size v n xs := by
  refine ⟨h.1, ?_⟩
  rcases h.2 with h2 | ⟨g, cap, cur, hv, hg, hh, r⟩
  · exact Or.inl h2
  · exact Or.inr ⟨g, cap, cur, hv, hg, (hb.block g (Array.getElem?_eq_some_iff.1 hh).1).trans hh, r⟩

/-- The value that owns a row of one-cell elements: nil, or the head of a block whose cells are known. -/
theorem own_shape {w : World} {base : Nat} {e : TypeId} {v : Value} {n : Nat} {xs : List Value} (h : w.ownsRow base e 1 v n xs) :
    ∃ (ao : Option Addr) (cap : Nat), v = .slice ao n cap ∧ (0 < n → ∃ g, ao = some ⟨g, 0, none⟩ ∧ g < w.heap.size ∧ ∀ j, j < n → w.cell? ⟨g, j, none⟩ = xs[j]?) := by
  have h' := h
  rcases h.2 with ⟨rfl, rfl⟩ | ⟨g, cap, cur, rfl, hb, hh, _⟩
  · exact ⟨none, 0, rfl, fun h => absurd h (by omega)⟩
  · exact ⟨_, cap, rfl, fun _ => ⟨g, rfl, (Array.getElem?_eq_some_iff.1 hh).1, fun j hj => h'.cellAt j (by omega)⟩⟩

theorem run_equalIn_pointer_same {P : Program} (d : Nat) (t e : TypeId) (z : Nat) (hp : P.underlying t = some (.pointer e)) (hz : (P.info? e).map (·.size) = some (z + 1)) (p : Option Addr) (w : World) :
    (Op.equalIn (d + 1) t (.pointer p) (.pointer p)).run P w = .ok true w := by
  cases hq : P.info? e with
  | none => simp [hq] at hz
  | some i =>
    cases p with
    | none => simp [Op.equalIn, run_underlying hp]
    | some a => simp [Op.equalIn, run_underlying hp, sizeOf, typeInfo, hq, sameAddr]

/-- a pointer is not other than itself -/
theorem run_neq_pointer_same {P : Program} (t e : TypeId) (z : Nat) (hp : P.underlying t = some (.pointer e)) (hz : (P.info? e).map (·.size) = some (z + 1)) (p : Option Addr) (w : World) :
    (binOp .neq t (.pointer p) (.pointer p)).run P w = .ok (.bool false) w := by
  have h : (Op.equal t (.pointer p) (.pointer p)).run P w = .ok true w := run_equalIn_pointer_same 9999 t e z hp hz p w
  simp only [binOp]
  simp [h]

/-- 'copy(dst, src)' of n elements of 's' cells each, dst a whole row of the call's own, src another whole row. -/
theorem run_copy_wide {P : Program} (w : World) (dT sT ty elem : TypeId) (s g h n : Nat) (t t' : TypeId) (f0 f : Nat → Value)
    (hu : P.underlying dT = some (.slice elem)) (hs : (P.info? elem).map (·.size) = some s) (hg : w.rowIs g t (n * s) f0) (hh : w.rowIs h t' (n * s) f) (h1 : ∀ i, i < n * s → (f i).oneCell' = true) :
    ∃ w', (Builtin.copy_ #[dT, sT] ty #[.slice (some ⟨g, 0, none⟩) n n, .slice (some ⟨h, 0, none⟩) n n]).run P w = .ok (goInt n) w' ∧ w'.rowIs g t (n * s) f ∧ w.grownBy w' (some g) := by
  obtain ⟨cur, hcur, hsz, _⟩ := hg
  have hcs : ∀ j v, ((List.range (n * s)).map f)[j]? = some v → w.cell? ((⟨h, 0, none⟩ : Addr).add j) = some v := by
    intro j v hv
    have hj : j < n * s := by
      have := (List.getElem?_eq_some_iff.1 hv).1
      simpa using this
    have hadd : (⟨h, 0, none⟩ : Addr).add j = ⟨h, j, none⟩ := by unfold Addr.add; split <;> simp_all
    rw [hadd, hh.cell hj]
    simpa [hj] using hv
  have hl := run_loadCells_list (P := P) w ⟨h, 0, none⟩ ((List.range (n * s)).map f) hcs
  have hst := run_storeCells_at P g 0 t ((List.range (n * s)).map f) 0 cur w hcur (by simp [hsz]) (fun v hv => by
    obtain ⟨i, hi, rfl⟩ := List.mem_map.1 hv
    exact h1 i (List.mem_range.1 hi))
  cases hq : P.info? elem with
  | none => simp [hq] at hs
  | some i =>
    have hi : i.size = s := by simpa [hq] using hs
    simp only [List.length_map, List.length_range] at hl hst
    refine ⟨_, by simp [Builtin.copy_, run_underlying hu, Builtin.lenOf, Builtin.firstCells, sizeOf, typeInfo, hq, hi, hl, hst]; rfl, ?_, ?_⟩
    · refine ⟨_, setRow_heap w g cur _ t _ hcur, by simp [hsz], fun j hj => ?_⟩
      simp [hsz, hj]
    · exact ⟨rfl, rfl, rfl, by simp [World.setRow], fun k _ hk => setRow_other w g k _ (fun e => hk (by simp [e]))⟩

theorem run_copy_zero {P : Program} (w : World) (dT sT ty elem : TypeId) (d a : Option Addr) (hu : P.underlying dT = some (.slice elem)) (hs : (P.info? elem).isSome = true) :
    (Builtin.copy_ #[dT, sT] ty #[.slice d 0 0, .slice a 0 0]).run P w = .ok (goInt 0) w := by
  cases hq : P.info? elem with
  | none => simp [hq] at hs
  | some i => cases d <;> cases a <;> simp [Builtin.copy_, run_underlying hu, Builtin.lenOf, Builtin.firstCells, sizeOf, typeInfo, hq, loadCells, loadCellsFrom, storeCells]

theorem wpList_copy_wide {P : Program} {w : World} {ops : Array Oper} {rest : List Oper} {o : Oper} {a : Act} {Q : Exit → Act → World → Prop} (hgd : o.guard = none) (d x : Operand) (dT sT : TypeId)
    (ho : o.op = .call { callee := .builtin .copy, args := #[d, x], argTypes := #[dT, sT] }) (elem : TypeId) (s g h n : Nat) (t t' : TypeId) (f0 f : Nat → Value)
    (hd : a.eval d = .slice (some ⟨g, 0, none⟩) n n) (hx : a.eval x = .slice (some ⟨h, 0, none⟩) n n)
    (hu : P.underlying dT = some (.slice elem)) (hs : (P.info? elem).map (·.size) = some s) (hg : w.rowIs g t (n * s) f0) (hh : w.rowIs h t' (n * s) f) (h1 : ∀ i, i < n * s → (f i).oneCell' = true)
    (hK : ∀ w', w'.rowIs g t (n * s) f → w.grownBy w' (some g) → wpList P ops Q rest (a.put o.dst (goInt n)) w') : wpList P ops Q (o :: rest) a w := by
  refine wpList_plain hgd fun K hK' => ?_
  obtain ⟨w', hrun, r1, r2⟩ := run_copy_wide (P := P) w dT sT o.type elem s g h n t t' f0 f hu hs hg hh h1
  unfold Oper.wp
  simp [execOp, ho, resolve, invoke, builtin, hd, hx, hrun, Result.andThen]
  exact hK' _ _ (hK w' r1 r2)

end Go.Proofs.Ybulkdcsq.Aid
