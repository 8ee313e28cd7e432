/-
  The zeros of '[9][256]int' and of a row of states.
-/
import Derived.Test.YbonekuxeGreatProg
import Derived.Test.YbonekuxeGreatHold
import Derived.OwnWalk
import Derived.Laws.MakeOwn
namespace Go.Proofs.YbonekuxeGreat
open Go.RowKit Go.Deep Go.Proofs.YbonekuxeGreat.Plain

def zc : Array Value := Array.replicate 2304 (.int .i64 0)
set_option maxRecDepth 100000 in
theorem info55 : (Ybgs.prog.info? 55).map (fun i => (i.zero, i.size)) = some (some (.agg zc), 2304) := by kernel_rfl
theorem info41 : (Ybgs.prog.info? 41).map (fun i => (i.zero, i.size, i.bytes)) = some (some (.agg #[.int .u64 0, .int .u32 0, .int .u32 0, .int .u8 0, .bool false]), 5, 24) := by kernel_rfl

/-- a state of zeros -/
def zel : El := ⟨0, 0, 0, false⟩
/-- the cells of a new row of states -/
def zrow (n : Nat) : Array Value := madeCells #[.int .u64 0, .int .u32 0, .int .u32 0, .int .u8 0, .bool false] (n * 5)

theorem zrow_is (w : World) (n : Nat) : (w.alloc (.cells (zrow n) 41)).rowIs w.heap.size 41 (n * 5) (rc fun _ => zel) := by
  refine ⟨zrow n, heap_alloc_last w _, size_madeCells _ _, fun i hi => ?_⟩
  have h5 : i % 5 < 5 := Nat.mod_lt _ (by omega)
  have hc : i % 5 = 0 ∨ i % 5 = 1 ∨ i % 5 = 2 ∨ i % 5 = 3 ∨ i % 5 = 4 := by omega
  unfold zrow madeCells
  rcases hc with h | h | h | h | h <;> simp [hi, h, rc, ecell, zel]

theorem make_states (n : Nat) (hn : n ≤ 1000000) (w : World) :
    (Instr.makeSlice 27 (.int .i64 n) (.int .i64 n)).run Ybgs.prog w = .ok (.slice (some ⟨w.heap.size, 0, none⟩) n n) (w.alloc (.cells (zrow n) 41)) := by
  obtain ⟨i0, hi, hz0, hz1, hz2⟩ := info_parts info41
  have hmk := run_make (P := Ybgs.prog) w 27 41 i0 _ Ybgs.underlying27 hi hz0 .i64 .i64 n n (by omega) (Int.le_refl _) (by rw [hz2]; omega) (by omega)
  simp only [hz1, Int.toNat_natCast] at hmk
  exact hmk

/-- what stands while the states are passed over -/
structure Inv (w W : World) (g ga gb C n : Nat) (e f : Nat → El) (F : Nat → Nat) : Prop where
  ra : W.rowIs ga 41 (n * 5) (rc e)
  rb : W.rowIs gb 41 (n * 5) (rc f)
  rC : W.rowIs C 55 2304 (cn F)
  gr : w.grownBy W (some g)
  oa : ga = g ∨ w.heap.size ≤ ga
  ob : gb = g ∨ w.heap.size ≤ gb
  oC : w.heap.size ≤ C
  ab : ga ≠ gb
  aC : ga ≠ C
  bC : gb ≠ C

theorem Inv.more {w W W' : World} {g ga gb C n : Nat} {e f : Nat → El} {F : Nat → Nat} (h : Inv w W g ga gb C n e f F) (hg : W.grownBy W' none) : Inv w W' g ga gb C n e f F :=
  ⟨row_stay h.ra hg (by simp), row_stay h.rb hg (by simp), row_stay h.rC hg (by simp), grown_trans h.gr (grown_some hg), h.oa, h.ob, h.oC, h.ab, h.aC, h.bC⟩

theorem Inv.swap {w W : World} {g ga gb C n : Nat} {e f : Nat → El} {F : Nat → Nat} (h : Inv w W g ga gb C n e f F) : Inv w W g gb ga C n f e F :=
  ⟨h.rb, h.ra, h.rC, h.gr, h.ob, h.oa, h.oC, h.ab.symm, h.bC, h.aC⟩

theorem Inv.setC {w W : World} {g ga gb C n : Nat} {e f : Nat → El} {F : Nat → Nat} (h : Inv w W g ga gb C n e f F) (j v : Nat) : Inv w (W.setCell ⟨C, j, none⟩ (.int .i64 v)) g ga gb C n e f (fun i => if i = j then v else F i) := by
  refine ⟨row_far h.ra C _ _ h.aC, row_far h.rb C _ _ h.bC, ?_, grown_new h.gr C _ _ h.oC, h.oa, h.ob, h.oC, h.ab, h.aC, h.bC⟩
  refine (h.rC.set _ _).congr fun i _ => ?_
  simp only [cn]
  split <;> simp

theorem Inv.congr {w W : World} {g ga gb C n : Nat} {e f e' f' : Nat → El} {F F' : Nat → Nat} (h : Inv w W g ga gb C n e f F) (he : ∀ k, k < n → e' k = e k) (hf : ∀ k, k < n → f' k = f k) (hF : ∀ j, j < 2304 → F' j = F j) : Inv w W g ga gb C n e' f' F' := by
  refine ⟨h.ra.congr fun j hj => ?_, h.rb.congr fun j hj => ?_, h.rC.congr fun j hj => by simp only [cn, hF j hj], h.gr, h.oa, h.ob, h.oC, h.ab, h.aC, h.bC⟩
  · simp only [rc, he (j / 5) (by omega)]
  · simp only [rc, hf (j / 5) (by omega)]

theorem grown_own {w W : World} {g b o : Nat} (h : w.grownBy W (some g)) (hb : b = g ∨ w.heap.size ≤ b) (v : Value) : w.grownBy (W.setCell ⟨b, o, none⟩ v) (some g) := by
  rcases hb with rfl | hb
  · exact grown_setCell h v
  · exact grown_new h b o v hb

/-- a state laid into the second row -/
theorem Inv.putB {w W : World} {g ga gb C n k : Nat} {e f : Nat → El} {F : Nat → Nat} (h : Inv w W g ga gb C n e f F) (x : El) {K : Nat} (hK : k * 5 = K) :
    Inv w (((((W.setCell ⟨gb, K, none⟩ (.int .u64 x.h)).setCell ⟨gb, K + 1, none⟩ (.int .u32 0)).setCell ⟨gb, K + 2, none⟩ (.int .u32 x.i)).setCell ⟨gb, K + 3, none⟩ (.int .u8 x.c)).setCell ⟨gb, K + 4, none⟩ (.bool x.l)) g ga gb C n e (put f k x) F := by
  subst hK
  refine ⟨row_far (row_far (row_far (row_far (row_far h.ra gb _ _ h.ab) gb _ _ h.ab) gb _ _ h.ab) gb _ _ h.ab) gb _ _ h.ab, row_put h.rb x,
    row_far (row_far (row_far (row_far (row_far h.rC gb _ _ h.bC.symm) gb _ _ h.bC.symm) gb _ _ h.bC.symm) gb _ _ h.bC.symm) gb _ _ h.bC.symm,
    grown_own (grown_own (grown_own (grown_own (grown_own h.gr h.ob _) h.ob _) h.ob _) h.ob _) h.ob _, h.oa, h.ob, h.oC, h.ab, h.aC, h.bC⟩

theorem Box.far5 {w : World} {b : Nat} {x : El} (h : Box w b x) (c K : Nat) (v0 v1 v2 v3 v4 : Value) (hne : b ≠ c) :
    Box (((((w.setCell ⟨c, K, none⟩ v0).setCell ⟨c, K + 1, none⟩ v1).setCell ⟨c, K + 2, none⟩ v2).setCell ⟨c, K + 3, none⟩ v3).setCell ⟨c, K + 4, none⟩ v4) b x :=
  ((((h.far c _ _ hne).far c _ _ hne).far c _ _ hne).far c _ _ hne).far c _ _ hne

/-- the counts while a pass lays the states: the places that come next -/
def Gi (F : Nat → Nat) (c fd : Nat → Nat) (p i j : Nat) : Nat := if p * 256 ≤ j ∧ j < p * 256 + 256 then pre c (j - p * 256) + cntTo fd (j - p * 256) i else F j
/-- .. while it turns the counts to places -/
def Hi (F : Nat → Nat) (c : Nat → Nat) (p b j : Nat) : Nat := if p * 256 ≤ j ∧ j < p * 256 + b then pre c (j - p * 256) else F j

theorem Hi_zero (F c : Nat → Nat) (p j : Nat) : Hi F c p 0 j = F j := by unfold Hi; rw [if_neg (by omega)]
theorem Hi_step (F c : Nat → Nat) (p b j : Nat) : Hi F c p (b + 1) j = if j = p * 256 + b then pre c b else Hi F c p b j := by
  unfold Hi
  by_cases h : j = p * 256 + b
  · rw [if_pos h, if_pos (by omega), show j - p * 256 = b from by omega]
  · rw [if_neg h]
    by_cases h2 : p * 256 ≤ j ∧ j < p * 256 + b
    · rw [if_pos h2, if_pos (by omega)]
    · rw [if_neg h2, if_neg (by omega)]
theorem Hi_full (F c fd : Nat → Nat) (p j : Nat) : Gi F c fd p 0 j = Hi F c p 256 j := by
  unfold Gi Hi
  split <;> simp [cntTo]
theorem Gi_step (F c fd : Nat → Nat) (p i j : Nat) (hb : fd i < 256) : Gi F c fd p (i + 1) j = if j = p * 256 + fd i then pre c (fd i) + cntTo fd (fd i) i + 1 else Gi F c fd p i j := by
  unfold Gi
  by_cases h : j = p * 256 + fd i
  · subst h
    rw [if_pos (by omega), if_pos rfl, show p * 256 + fd i - p * 256 = fd i from by omega]
    simp [cntTo]; omega
  · rw [if_neg h]
    by_cases h2 : p * 256 ≤ j ∧ j < p * 256 + 256
    · rw [if_pos h2, if_pos h2]
      simp only [cntTo]
      rw [if_neg (by omega)]; omega
    · rw [if_neg h2, if_neg h2]
theorem Gi_at (F c fd : Nat → Nat) (p i b : Nat) (hb : b < 256) : Gi F c fd p i (p * 256 + b) = pre c b + cntTo fd b i := by
  unfold Gi
  rw [if_pos (by omega), show p * 256 + b - p * 256 = b from by omega]
theorem Gi_above (F c fd : Nat → Nat) (p i j : Nat) (hj : (p + 1) * 256 ≤ j) : Gi F c fd p i j = F j := by
  unfold Gi
  rw [if_neg (by omega)]

end Go.Proofs.YbonekuxeGreat
