/-
  A region that draws, whose callees make memory and change none: walked once, among the worlds that have grown out of the one at its head.
-/
import Derived.Test.YbonekuxeGreatPlaces
import Derived.Test.YbonekuxeGreatIns
namespace Go.Proofs.YbonekuxeGreat
open Go.RowKit Go.Deep Go.Proofs.YbonekuxeGreat.Plain

structure Gr (w : World) where
  out : World
  grown : w.grownBy out none

theorem wp_region_grow {P : Program} {id : Nat} {Q : Exit → Act → World → Prop} {a : Act} {w : World} {l : List Oper} (hm : P.follows .mixedOrders = true) (hB : Region.lexB .any l.toArray = true)
    (h : wpQuiet P l.toArray (fun w' => ∃ n : Gr w, w' = n.out) (fun a' => ∀ w', (∃ n : Gr w, w' = n.out) → Q .normal a' w') l a) : (Code.region id l.toArray true).wp P Q a w :=
  wp_region_quiet (C := fun w' => ∃ n : Gr w, w' = n.out) hm hB ⟨⟨w.drewN 1, grown_drewN (World.grownBy.refl _ _) 1⟩, rfl⟩ (by simpa using h)

theorem gr_cell {w : World} {a : Addr} {v : Value} (h : w.cell? a = some v) (n : Gr w) : n.out.cell? a = some v :=
  (n.grown.cell_far a (World.block_lt_of_cell? w a h) (by simp)).trans h

theorem cmp_gr (T G O n : Nat) (key : Nat → ByteArray) (x y : El) (w : World) (ht : Tree w T G O n key) (hx : x.i < n) (hy : y.i < n) (m : Gr w) :
    Calls Ybgs.prog 9 #[.pointer (some ⟨T, 0, none⟩), ev x, ev y] m.out fun e w' => e = .returned (.int .i64 (cmpE key x y)) ∧ ∃ k : Gr w, w' = k.out :=
  (comparePlaces_any T G O n key x y m.out (ht.grown m.grown (by simp) (by simp) (by simp)) hx hy).mono fun _ _ ⟨he, hg⟩ => ⟨he, ⟨_, m.grown.trans hg⟩, rfl⟩

/-- the comparator as a value -/
def cmpV (T : Nat) : Value := .func (.func 9) #[.pointer (some ⟨T, 0, none⟩)] #[]

/-- what the sort asks of its comparator on the elements that it meets -/
structure Ord (Q : El → Prop) (key : Nat → ByteArray) (n : Nat) (R : El → El → Prop) : Prop where
  bnd : ∀ x, Q x → x.i < n
  tr : ∀ x y z, R x y → R y z → R x z
  dec : ∀ x y, Q x → Q y → x.i < y.i → (cmpE key y x < 0 ∧ R y x) ∨ (¬ cmpE key y x < 0 ∧ R x y)

theorem same_Q {Q : El → Prop} {a b : Nat} {d d' : Nat → El} (h : Same a b d d') (hq : ∀ k, a ≤ k → k < b → Q (d k)) : ∀ k, a ≤ k → k < b → Q (d' k) := by
  intro k h1 h2
  obtain ⟨l, l1, l2, e⟩ := h.fwd k h1 h2
  rw [e]; exact hq l l1 l2

theorem row_keep {w w' : World} {g N : Nat} {f : Nat → Value} {row : Option Nat} (h : w.rowIs g 41 N f) (hg : w.grownBy w' row) (hne : some g ≠ row) : w'.rowIs g 41 N f := by
  obtain ⟨c, hb, hs, hc⟩ := h
  have hl : g < w.heap.size := by
    rcases Nat.lt_or_ge g w.heap.size with h | h
    · exact h
    · rw [Array.getElem?_eq_none h] at hb; cases hb
  exact ⟨c, (hg.block g hl hne).trans hb, hs, hc⟩

theorem grown_some {w w' : World} {g : Nat} (h : w.grownBy w' none) : w.grownBy w' (some g) :=
  ⟨h.os, h.tape, h.output, h.size, fun k hk _ => h.block k hk (by simp)⟩

theorem row_five {w : World} {g N : Nat} {d : Nat → El} (hr : w.rowIs g 41 (N * 5) (rc d)) (k : Nat) (hk : k < N) {A : Nat} (hA : k * 5 = A) :
    w.cell? ⟨g, A, none⟩ = some (.int .u64 (d k).h) ∧ w.cell? ⟨g, A + 1, none⟩ = some (.int .u32 0) ∧ w.cell? ⟨g, A + 2, none⟩ = some (.int .u32 (d k).i) ∧ w.cell? ⟨g, A + 3, none⟩ = some (.int .u8 (d k).c) ∧ w.cell? ⟨g, A + 4, none⟩ = some (.bool (d k).l) := by
  subst hA
  exact ⟨rc_0 (hr.cell (by omega)), rc_1 (hr.cell (by omega)), rc_2 (hr.cell (by omega)), rc_3 (hr.cell (by omega)), rc_4 (hr.cell (by omega))⟩

theorem row_gr {w : World} {g N : Nat} {d : Nat → El} (hr : w.rowIs g 41 (N * 5) (rc d)) (k : Nat) (hk : k < N) {A : Nat} (hA : k * 5 = A) :
    (∀ n : Gr w, n.out.cell? ⟨g, A, none⟩ = some (.int .u64 (d k).h)) ∧ (∀ n : Gr w, n.out.cell? ⟨g, A + 1, none⟩ = some (.int .u32 0)) ∧ (∀ n : Gr w, n.out.cell? ⟨g, A + 2, none⟩ = some (.int .u32 (d k).i)) ∧ (∀ n : Gr w, n.out.cell? ⟨g, A + 3, none⟩ = some (.int .u8 (d k).c)) ∧ (∀ n : Gr w, n.out.cell? ⟨g, A + 4, none⟩ = some (.bool (d k).l)) := by
  obtain ⟨h0, h1, h2, h3, h4⟩ := row_five hr k hk hA
  exact ⟨gr_cell h0, gr_cell h1, gr_cell h2, gr_cell h3, gr_cell h4⟩

theorem row_free {w : World} {g N : Nat} {f : Nat → Value} (hr : w.rowIs g 41 N f) (A : Nat) :
    w.frozen? ⟨g, A, none⟩ = false ∧ w.frozen? ⟨g, A + 1, none⟩ = false ∧ w.frozen? ⟨g, A + 2, none⟩ = false ∧ w.frozen? ⟨g, A + 3, none⟩ = false ∧ w.frozen? ⟨g, A + 4, none⟩ = false :=
  ⟨hr.frozen _, hr.frozen _, hr.frozen _, hr.frozen _, hr.frozen _⟩

end Go.Proofs.YbonekuxeGreat
