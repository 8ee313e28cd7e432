/-
  Rows that stay as they are while others are written.
-/
import Derived.Test.YbonekuxeGreatDig
import Derived.Test.YbonekuxeGreatStab
import Derived.Deep.WholeRow
namespace Go.Proofs.YbonekuxeGreat
open Go.RowKit Go.Deep Go.Proofs.YbonekuxeGreat.Plain

theorem row_lt {w : World} {g t N : Nat} {f : Nat → Value} (h : w.rowIs g t N f) : g < w.heap.size := by
  obtain ⟨c, hb, _⟩ := h
  rcases Nat.lt_or_ge g w.heap.size with h | h
  · exact h
  · rw [Array.getElem?_eq_none h] at hb; cases hb

theorem row_stay {w w' : World} {g t N : Nat} {f : Nat → Value} {row : Option Nat} (h : w.rowIs g t N f) (hg : w.grownBy w' row) (hne : some g ≠ row) : w'.rowIs g t N f := by
  have hl := row_lt h
  obtain ⟨c, hb, hs, hc⟩ := h
  exact ⟨c, (hg.block g hl hne).trans hb, hs, hc⟩

theorem row_alloc {w : World} {g t N : Nat} {f : Nat → Value} (h : w.rowIs g t N f) (o : Obj) : (w.alloc o).rowIs g t N f := row_stay h (World.grownBy_alloc w o none) (by simp)

theorem row_far {w : World} {g t N : Nat} {f : Nat → Value} (h : w.rowIs g t N f) (b o : Nat) (v : Value) (hne : g ≠ b) : (w.setCell ⟨b, o, none⟩ v).rowIs g t N f := by
  obtain ⟨c, hb, hs, hc⟩ := h
  exact ⟨c, (Below.heap_setCell _ _ _ _ (fun e => hne e)).trans hb, hs, hc⟩

theorem grown_new {w W : World} {row : Option Nat} (h : w.grownBy W row) (b o : Nat) (v : Value) (hb : w.heap.size ≤ b) : w.grownBy (W.setCell ⟨b, o, none⟩ v) row :=
  ⟨h.os, h.tape, h.output, by simpa [World.setCell] using h.size, fun k hk hne => (Below.heap_setCell _ _ _ _ (fun e => by have : k = b := e; omega)).trans (h.block k hk hne)⟩

theorem grown_alloc {w W : World} {row : Option Nat} (h : w.grownBy W row) (o : Obj) : w.grownBy (W.alloc o) row := h.trans (World.grownBy_alloc W o row)

/-- a box, whole -/
def Box (w : World) (b : Nat) (x : El) : Prop := w.heap[b]? = some (bx x)

theorem Box.lt {w : World} {b : Nat} {x : El} (h : Box w b x) : b < w.heap.size := by
  unfold Box at h
  rcases Nat.lt_or_ge b w.heap.size with h' | h'
  · exact h'
  · rw [Array.getElem?_eq_none h'] at h; cases h

theorem Box.stay {w w' : World} {b : Nat} {x : El} {row : Option Nat} (h : Box w b x) (hg : w.grownBy w' row) (hne : some b ≠ row) : Box w' b x := (hg.block b h.lt hne).trans h

theorem Box.alloc {w : World} {b : Nat} {x : El} (h : Box w b x) (o : Obj) : Box (w.alloc o) b x := h.stay (World.grownBy_alloc w o none) (by simp)

theorem Box.far {w : World} {b : Nat} {x : El} (h : Box w b x) (c o : Nat) (v : Value) (hne : b ≠ c) : Box (w.setCell ⟨c, o, none⟩ v) b x :=
  (Below.heap_setCell _ _ _ _ (fun e => hne e)).trans h

theorem Box.new (w : World) (x : El) : Box (w.alloc (bx x)) w.heap.size x :=
  heap_alloc_last w (bx x)

theorem Box.five {w : World} {b : Nat} {x : El} (h : Box w b x) : w.cell? ⟨b, 0, none⟩ = some (.int .u64 x.h) ∧ w.cell? ⟨b, 1, none⟩ = some (.int .u32 0) ∧ w.cell? ⟨b, 2, none⟩ = some (.int .u32 x.i) ∧ w.cell? ⟨b, 3, none⟩ = some (.int .u8 x.c) ∧ w.cell? ⟨b, 4, none⟩ = some (.bool x.l) := by
  unfold Box bx at h
  refine ⟨?_, ?_, ?_, ?_, ?_⟩ <;> simp [World.cell?, h]

/-- the counts -/
def cn (F : Nat → Nat) (j : Nat) : Value := .int .i64 (F j)

end Go.Proofs.YbonekuxeGreat
