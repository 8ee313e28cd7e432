/-
  Rows of states ('stateAt': five cells) told by a function of the index.
-/
import Derived.WalkKit
import Derived.WalkSpells
import Derived.WalkLawsBesides
import Derived.Deep.OwnRows
import Derived.Test.YbonekuxeGreatPlain
namespace Go.Proofs.YbonekuxeGreat
open Go.RowKit Go.Deep Go.Proofs.YbonekuxeGreat.Plain

theorem Hid.mk' {p : Prop} (h : p) : Hid p := h

/-- a state: its head, its index, its kind code, whether its key runs on past the head (its record is 0) -/
structure El where
  h : Nat
  i : Nat
  c : Nat
  l : Bool

def ecell (x : El) (j : Nat) : Value := if j = 0 then .int .u64 x.h else if j = 1 then .int .u32 0 else if j = 2 then .int .u32 x.i else if j = 3 then .int .u8 x.c else .bool x.l
/-- the cells of a row of states -/
def rc (d : Nat → El) (j : Nat) : Value := ecell (d (j / 5)) (j % 5)

def ev (x : El) : Value := .agg #[.int .u64 x.h, .int .u32 0, .int .u32 x.i, .int .u8 x.c, .bool x.l]

theorem rc_0 {o : Option Value} {d : Nat → El} {k : Nat} (h : o = some (rc d (k * 5))) : o = some (.int .u64 (d k).h) := by
  rw [h]; unfold rc ecell; rw [show k * 5 % 5 = 0 from by omega, show k * 5 / 5 = k from by omega]; rfl
theorem rc_1 {o : Option Value} {d : Nat → El} {k : Nat} (h : o = some (rc d (k * 5 + 1))) : o = some (.int .u32 0) := by
  rw [h]; unfold rc ecell; rw [show (k * 5 + 1) % 5 = 1 from by omega]; rfl
theorem rc_2 {o : Option Value} {d : Nat → El} {k : Nat} (h : o = some (rc d (k * 5 + 2))) : o = some (.int .u32 (d k).i) := by
  rw [h]; unfold rc ecell; rw [show (k * 5 + 2) % 5 = 2 from by omega, show (k * 5 + 2) / 5 = k from by omega]; rfl
theorem rc_3 {o : Option Value} {d : Nat → El} {k : Nat} (h : o = some (rc d (k * 5 + 3))) : o = some (.int .u8 (d k).c) := by
  rw [h]; unfold rc ecell; rw [show (k * 5 + 3) % 5 = 3 from by omega, show (k * 5 + 3) / 5 = k from by omega]; rfl
theorem rc_4 {o : Option Value} {d : Nat → El} {k : Nat} (h : o = some (rc d (k * 5 + 4))) : o = some (.bool (d k).l) := by
  rw [h]; unfold rc ecell; rw [show (k * 5 + 4) % 5 = 4 from by omega, show (k * 5 + 4) / 5 = k from by omega]; rfl

/-- A whole state laid into its place. -/
def put (d : Nat → El) (k : Nat) (x : El) : Nat → El := fun j => if j = k then x else d j

theorem row_put {W : World} {g N k : Nat} {d : Nat → El} (hr : W.rowIs g 41 (N * 5) (rc d)) (x : El) :
    (((((W.setCell ⟨g, k * 5, none⟩ (.int .u64 x.h)).setCell ⟨g, k * 5 + 1, none⟩ (.int .u32 0)).setCell ⟨g, k * 5 + 2, none⟩ (.int .u32 x.i)).setCell ⟨g, k * 5 + 3, none⟩ (.int .u8 x.c)).setCell ⟨g, k * 5 + 4, none⟩ (.bool x.l)).rowIs g 41 (N * 5) (rc (put d k x)) := by
  refine (((((hr.set _ _).set _ _).set _ _).set _ _).set _ _).congr fun j _ => ?_
  by_cases hk : j / 5 = k
  · have hc : j = k * 5 ∨ j = k * 5 + 1 ∨ j = k * 5 + 2 ∨ j = k * 5 + 3 ∨ j = k * 5 + 4 := by omega
    have hp : put d k x k = x := by simp [put]
    rcases hc with h | h | h | h | h
    · subst h; simpa [hp] using (Option.some.inj (rc_0 (d := put d k x) (k := k) rfl)).symm
    · subst h; simpa [hp] using (Option.some.inj (rc_1 (d := put d k x) (k := k) rfl)).symm
    · subst h; simpa [hp] using (Option.some.inj (rc_2 (d := put d k x) (k := k) rfl)).symm
    · subst h; simpa [hp] using (Option.some.inj (rc_3 (d := put d k x) (k := k) rfl)).symm
    · subst h; simpa [hp] using (Option.some.inj (rc_4 (d := put d k x) (k := k) rfl)).symm
  · simp only [show j ≠ k * 5 + 4 from by omega, show j ≠ k * 5 + 3 from by omega, show j ≠ k * 5 + 2 from by omega, show j ≠ k * 5 + 1 from by omega, show j ≠ k * 5 from by omega, if_false]
    simp [rc, put, hk]

theorem put_put_swap (d : Nat → El) (i j : Nat) : put (put d i (d j)) j (d i) = swapAt d i j ∨ i = j := by
  by_cases h : i = j
  · exact .inr h
  · left
    funext k
    simp only [put, swapAt]
    by_cases h1 : k = j
    · subst h1
      rw [if_pos rfl, if_neg (fun e => h e.symm), if_pos rfl]
    · rw [if_neg h1]
      by_cases h2 : k = i
      · rw [if_pos h2, if_pos h2]
      · rw [if_neg h2, if_neg h2, if_neg h1]

theorem grown_setCell {w W : World} {g o : Nat} (h : w.grownBy W (some g)) (v : Value) : w.grownBy (W.setCell ⟨g, o, none⟩ v) (some g) :=
  ⟨h.os, h.tape, h.output, by simpa [World.setCell] using h.size, fun k hk hne => (Below.heap_setCell _ _ _ _ (fun e => hne (by rw [e]))).trans (h.block k hk hne)⟩

theorem grown_trans {w w1 w2 : World} {g : Nat} (h : w.grownBy w1 (some g)) (k : w1.grownBy w2 (some g)) : w.grownBy w2 (some g) :=
  ⟨k.os.trans h.os, k.tape.trans h.tape, k.output.trans h.output, Nat.le_trans h.size k.size, fun q hq hne => (k.block q (Nat.lt_of_lt_of_le hq h.size) hne).trans (h.block q hq hne)⟩

theorem grown_drewN {w W : World} {row : Option Nat} (h : w.grownBy W row) (n : Nat) : w.grownBy (W.drewN n) row := ⟨h.os, h.tape, h.output, h.size, h.block⟩

/-- an exchange of two states, as the walk leaves it -/
theorem swap_step {w W : World} {g N p q A Z : Nat} {e : Nat → El} (hr : W.rowIs g 41 (N * 5) (rc e)) (hg : w.grownBy W (some g)) (hne : p ≠ q) (hA : p * 5 = A) (hZ : q * 5 = Z) :
    ((((((((((W.setCell ⟨g, A, none⟩ (.int .u64 (e q).h)).setCell ⟨g, A + 1, none⟩ (.int .u32 0)).setCell ⟨g, A + 2, none⟩ (.int .u32 (e q).i)).setCell ⟨g, A + 3, none⟩ (.int .u8 (e q).c)).setCell ⟨g, A + 4, none⟩ (.bool (e q).l)).setCell ⟨g, Z, none⟩ (.int .u64 (e p).h)).setCell
      ⟨g, Z + 1, none⟩ (.int .u32 0)).setCell ⟨g, Z + 2, none⟩ (.int .u32 (e p).i)).setCell ⟨g, Z + 3, none⟩ (.int .u8 (e p).c)).setCell ⟨g, Z + 4, none⟩ (.bool (e p).l)).drew.rowIs g 41 (N * 5) (rc (swapAt e p q)) ∧
    w.grownBy ((((((((((W.setCell ⟨g, A, none⟩ (.int .u64 (e q).h)).setCell ⟨g, A + 1, none⟩ (.int .u32 0)).setCell ⟨g, A + 2, none⟩ (.int .u32 (e q).i)).setCell ⟨g, A + 3, none⟩ (.int .u8 (e q).c)).setCell ⟨g, A + 4, none⟩ (.bool (e q).l)).setCell ⟨g, Z, none⟩ (.int .u64 (e p).h)).setCell
      ⟨g, Z + 1, none⟩ (.int .u32 0)).setCell ⟨g, Z + 2, none⟩ (.int .u32 (e p).i)).setCell ⟨g, Z + 3, none⟩ (.int .u8 (e p).c)).setCell ⟨g, Z + 4, none⟩ (.bool (e p).l)).drew (some g) := by
  subst hA; subst hZ
  constructor
  · have h2 := row_put (k := q) (row_put (k := p) hr (e q)) (e p)
    rcases put_put_swap e p q with h | h
    · rw [h] at h2; exact h2.drew
    · exact absurd h hne
  · exact grown_drewN (grown_setCell (grown_setCell (grown_setCell (grown_setCell (grown_setCell (grown_setCell (grown_setCell (grown_setCell (grown_setCell (grown_setCell hg _) _) _) _) _) _) _) _) _) _) 1

end Go.Proofs.YbonekuxeGreat
