/-
  What LawS5209CNack's world holds behind its composite literals, and how each later step hands it on.
-/
import Derived.Test.YbulkdcvwLits
namespace Go.Proofs.Ybulkdcvw
open Go.RowKit Go.Deep Go.Proofs.Ybulkdcvw.Aid

/-- The two maps (blocks B and B + 1), the probe (block pb), the node (block pb + 1). -/
structure St (B pb : Nat) (w W : World) (s : Int) (kh : Nat) (Dh : DataW Unit) (kw : Nat) (Dw : DataW Unit) (pr : Value) : Prop where
  hlp : OwnsB W B kh Dh
  want : OwnsB W (B + 1) kw Dw
  bel : Below B w W
  seq : W.cell? ⟨pb, 9, none⟩ = some (.int .u64 s)
  ans : W.cell? ⟨pb, 17, none⟩ = some (.bool false)
  hmap : W.cell? ⟨pb, 23, none⟩ = some (.map (some B))
  probing : W.cell? ⟨pb + 1, 38, none⟩ = some pr
  free : W.frozen? ⟨pb + 1, 38, none⟩ = false
  far : B + 1 < pb
  size : pb + 1 < W.heap.size
  base : B ≤ w.heap.size

theorem st_new {w wc : World} {s : Int} {k : Nat} {D : DataW Unit} (h1 : OwnsB wc w.heap.size k D) (h2 : OwnsB wc (w.heap.size + 1) k D) (hb : Below w.heap.size w wc) (hsz : w.heap.size + 1 < wc.heap.size) :
    St w.heap.size wc.heap.size w ((wc.alloc (.cells (ppC s w.heap.size) 59)).alloc (.cells nodeC 123)) s k D k D (.pointer none) := by
  have e1 : ((wc.alloc (.cells (ppC s w.heap.size) 59)).alloc (.cells nodeC 123)).heap[wc.heap.size]? = some (.cells (ppC s w.heap.size) 59) := by
    rw [Below.heap_alloc _ _ _ (by simp)]
    exact heap_alloc_last _ _
  have e2 : ((wc.alloc (.cells (ppC s w.heap.size) 59)).alloc (.cells nodeC 123)).heap[wc.heap.size + 1]? = some (.cells nodeC 123) := by
    have := heap_alloc_last (wc.alloc (.cells (ppC s w.heap.size) 59)) (.cells nodeC 123)
    simpa using this
  refine ⟨(h1.alloc _).alloc _, (h2.alloc _).alloc _, (hb.alloc hb.size _).alloc (by have := hb.size; simp; omega) _, ?_, ?_, ?_, ?_, ?_, hsz, by simp, Nat.le_refl _⟩
  · rw [cell_of_row _ _ 9 _ _ _ e1]; exact ppC_9 s _
  · rw [cell_of_row _ _ 17 _ _ _ e1]; exact ppC_17 s _
  · rw [cell_of_row _ _ 23 _ _ _ e1]; exact ppC_23 s _
  · rw [cell_of_row _ _ 38 _ _ _ e2]; exact nodeC_38
  · exact frozen_of_row _ _ 38 _ _ e2

theorem St.put {B pb : Nat} {w W : World} {s : Int} {kh : Nat} {Dh : DataW Unit} {kw : Nat} {Dw : DataW Unit} {pr : Value} (h : St B pb w W s kh Dh kw Dw pr) (v : Value) : St B pb w (W.setCell ⟨pb + 1, 38, none⟩ v) s kh Dh kw Dw v := by
  have hf := h.far
  have blk : ∀ k, k ≠ pb + 1 → (W.setCell ⟨pb + 1, 38, none⟩ v).heap[k]? = W.heap[k]? := fun k hk => Below.heap_setCell _ _ _ _ hk
  refine ⟨ownsMap_block h.hlp (blk _ (by omega)), ownsMap_block h.want (blk _ (by omega)), h.bel.setCell (by show B ≤ pb + 1; omega) _, ?_, ?_, ?_, ?_, ?_, h.far, by simpa [World.setCell] using h.size, h.base⟩
  · rw [World.cell?_of_block (blk _ (by show pb ≠ pb + 1; omega))]; exact h.seq
  · rw [World.cell?_of_block (blk _ (by show pb ≠ pb + 1; omega))]; exact h.ans
  · rw [World.cell?_of_block (blk _ (by show pb ≠ pb + 1; omega))]; exact h.hmap
  · rw [World.cell?_setCell_same _ _ _ (by rw [h.probing])]
  · rw [World.frozen?_setCell]; exact h.free

/-- nothing that was there has turned -/
theorem St.later {B pb : Nat} {w W W2 : World} {s : Int} {kh : Nat} {Dh : DataW Unit} {kw : Nat} {Dw : DataW Unit} {pr : Value} (h : St B pb w W s kh Dh kw Dw pr) (hb : Below W.heap.size W W2) : St B pb w W2 s kh Dh kw Dw pr := by
  have hs := h.size
  have hf := h.far
  have cel : ∀ b o, b < W.heap.size → W2.cell? ⟨b, o, none⟩ = W.cell? ⟨b, o, none⟩ := fun b o hlt => hb.cell (by exact hlt)
  refine ⟨ownsMap_block h.hlp (hb.block _ (by omega)), ownsMap_block h.want (hb.block _ (by omega)), h.bel.trans (hb.mono (Nat.le_trans h.base h.bel.size)), ?_, ?_, ?_, ?_, ?_, h.far, Nat.lt_of_lt_of_le hs hb.size, h.base⟩
  · rw [cel _ _ (by omega)]; exact h.seq
  · rw [cel _ _ (by omega)]; exact h.ans
  · rw [cel _ _ (by omega)]; exact h.hmap
  · rw [cel _ _ (by omega)]; exact h.probing
  · rw [hb.frozen (by exact hs)]; exact h.free

/-- the first map has been written -/
theorem St.wrote {B pb : Nat} {w W W2 : World} {s : Int} {kh kh2 : Nat} {Dh Dh2 : DataW Unit} {kw : Nat} {Dw : DataW Unit} {pr : Value} (h : St B pb w W s kh Dh kw Dw pr) (ho : OwnsB W2 B kh2 Dh2) (hg : W.grownBy W2 (some B)) : St B pb w W2 s kh2 Dh2 kw Dw pr := by
  have hs := h.size
  have hf := h.far
  have hB : B ≤ W.heap.size := Nat.le_trans h.base h.bel.size
  have cel : ∀ b o, b < W.heap.size → b ≠ B → W2.cell? ⟨b, o, none⟩ = W.cell? ⟨b, o, none⟩ := fun b o hlt hne => World.cell?_of_block (hg.block b hlt (by simpa using hne))
  refine ⟨ho, h.want.kept hg (by simp), Below.grown h.bel hg hB (fun k hk => by simp at hk; omega), ?_, ?_, ?_, ?_, ?_, h.far, Nat.lt_of_lt_of_le hs hg.size, h.base⟩
  · rw [cel _ _ (by omega) (by omega)]; exact h.seq
  · rw [cel _ _ (by omega) (by omega)]; exact h.ans
  · rw [cel _ _ (by omega) (by omega)]; exact h.hmap
  · rw [cel _ _ (by omega) (by omega)]; exact h.probing
  · rw [World.frozen?_of_block (hg.block (pb + 1) hs (by simp; omega))]; exact h.free

/-- the second map has been written -/
theorem St.wrote2 {B pb : Nat} {w W W2 : World} {s : Int} {kh : Nat} {Dh : DataW Unit} {kw kw2 : Nat} {Dw Dw2 : DataW Unit} {pr : Value} (h : St B pb w W s kh Dh kw Dw pr) (ho : OwnsB W2 (B + 1) kw2 Dw2) (hg : W.grownBy W2 (some (B + 1))) : St B pb w W2 s kh Dh kw2 Dw2 pr := by
  have hs := h.size
  have hf := h.far
  have hB : B ≤ W.heap.size := Nat.le_trans h.base h.bel.size
  have cel : ∀ b o, b < W.heap.size → b ≠ B + 1 → W2.cell? ⟨b, o, none⟩ = W.cell? ⟨b, o, none⟩ := fun b o hlt hne => World.cell?_of_block (hg.block b hlt (by simpa using hne))
  refine ⟨h.hlp.kept hg (by simp), ho, Below.grown h.bel hg hB (fun k hk => by simp at hk; omega), ?_, ?_, ?_, ?_, ?_, h.far, Nat.lt_of_lt_of_le hs hg.size, h.base⟩
  · rw [cel _ _ (by omega) (by omega)]; exact h.seq
  · rw [cel _ _ (by omega) (by omega)]; exact h.ans
  · rw [cel _ _ (by omega) (by omega)]; exact h.hmap
  · rw [cel _ _ (by omega) (by omega)]; exact h.probing
  · rw [World.frozen?_of_block (hg.block (pb + 1) hs (by simp; omega))]; exact h.free

theorem run_equalIn_pointer_same {P : Program} (d : Nat) (t e : TypeId) (z : Nat) (hp : P.underlying t = some (.pointer e)) (hz : (P.info? e).map (·.size) = some (z + 1)) (p : Option Addr) (w : World) :
    (Op.equalIn (d + 1) t (.pointer p) (.pointer p)).run P w = .ok true w := by
  cases hq : P.info? e with
  | none => simp [hq] at hz
  | some i =>
    cases p with
    | none => simp [Op.equalIn, run_underlying hp]
    | some a => simp [Op.equalIn, run_underlying hp, sizeOf, typeInfo, hq, sameAddr]

/-- a pointer is not other than itself -/
theorem run_neq_pointer_same {P : Program} (t e : TypeId) (z : Nat) (hp : P.underlying t = some (.pointer e)) (hz : (P.info? e).map (·.size) = some (z + 1)) (p : Option Addr) (w : World) :
    (binOp .neq t (.pointer p) (.pointer p)).run P w = .ok (.bool false) w := by
  have h : (Op.equal t (.pointer p) (.pointer p)).run P w = .ok true w := run_equalIn_pointer_same 9999 t e z hp hz p w
  simp only [binOp]
  simp [h]

end Go.Proofs.Ybulkdcvw
