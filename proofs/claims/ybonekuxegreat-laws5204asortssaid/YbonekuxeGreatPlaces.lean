/-
  'comparePlaces' walked.
-/
import Derived.Test.YbonekuxeGreatCmp
import Derived.Deep.DeepCutAuto
import Derived.Deep.RegionWith
import Derived.Deep.QuietTactic
import Derived.BigQuiet
import Derived.Deep.AppendLies
import Derived.StillTailTactics
namespace Go.Proofs.YbonekuxeGreat
open Go.RowKit Go.Deep Go.Proofs.YbonekuxeGreat.Plain

/-- the tree: its only list of gathered objects, their keys -/
structure Tree (w : World) (T G O n : Nat) (key : Nat → ByteArray) : Prop where
  t : w.cell? ⟨T, 257, none⟩ = some (.slice (some ⟨G, 0, none⟩) 1 1)
  g : w.cell? ⟨G, 0, none⟩ = some (.slice (some ⟨O, 0, none⟩) n n)
  o : ∀ i, i < n → w.cell? ⟨O, i * 3 + 1, none⟩ = some (.string (key i))
  ts : T < w.heap.size
  gs : G < w.heap.size
  os : O < w.heap.size

theorem Tree.grown {w w' : World} {T G O n : Nat} {key : Nat → ByteArray} {row : Option Nat} (h : Tree w T G O n key) (hg : w.grownBy w' row) (h1 : some T ≠ row) (h2 : some G ≠ row) (h3 : some O ≠ row) : Tree w' T G O n key :=
  ⟨(hg.cell_far ⟨T, 257, none⟩ h.ts h1).trans h.t, (hg.cell_far ⟨G, 0, none⟩ h.gs h2).trans h.g, fun i hi => (hg.cell_far ⟨O, i * 3 + 1, none⟩ h.os h3).trans (h.o i hi), Nat.lt_of_lt_of_le h.ts hg.size, Nat.lt_of_lt_of_le h.gs hg.size, Nat.lt_of_lt_of_le h.os hg.size⟩

def orE (x y : El) : Int := orI (cmpN x.c y.c) (cmpN x.h y.h)
def cmpE (key : Nat → ByteArray) (x y : El) : Int := if orE x y ≠ 0 ∨ (x.l = false ∧ y.l = false) then orE x y else Lib.compareBytes (key x.i).data.toList (key y.i).data.toList

/-- What lies in the two boxes. -/
structure Boxed (w : World) (A : Nat) (x : El) : Prop where
  c0 : w.cell? ⟨A, 0, none⟩ = some (.int .u64 x.h)
  c1 : w.cell? ⟨A, 1, none⟩ = some (.int .u32 0)
  c2 : w.cell? ⟨A, 2, none⟩ = some (.int .u32 x.i)
  c3 : w.cell? ⟨A, 3, none⟩ = some (.int .u8 x.c)
  c4 : w.cell? ⟨A, 4, none⟩ = some (.bool x.l)
  sz : A < w.heap.size

theorem boxed_one (x : El) (w : World) : Boxed (w.alloc (.cells #[.int .u64 x.h, .int .u32 0, .int .u32 x.i, .int .u8 x.c, .bool x.l] 41)) w.heap.size x ∧ w.grownBy (w.alloc (.cells #[.int .u64 x.h, .int .u32 0, .int .u32 x.i, .int .u8 x.c, .bool x.l] 41)) none := by
  refine ⟨⟨?_, ?_, ?_, ?_, ?_, ?_⟩, World.grownBy_alloc w _ none⟩
  all_goals first | (rw [World.cell?_alloc_new]; rfl) | simp

theorem Boxed.grown {w w' : World} {A : Nat} {x : El} (h : Boxed w A x) (hg : w.grownBy w' none) : Boxed w' A x :=
  ⟨(hg.cell_far ⟨A, 0, none⟩ h.sz (by simp)).trans h.c0, (hg.cell_far ⟨A, 1, none⟩ h.sz (by simp)).trans h.c1, (hg.cell_far ⟨A, 2, none⟩ h.sz (by simp)).trans h.c2, (hg.cell_far ⟨A, 3, none⟩ h.sz (by simp)).trans h.c3, (hg.cell_far ⟨A, 4, none⟩ h.sz (by simp)).trans h.c4, Nat.lt_of_lt_of_le h.sz hg.size⟩

theorem pair0 (w : World) (a b : Int) : ((w.alloc (.cells #[.int .i64 a, .int .i64 b] 3)).drew).cell? ⟨w.heap.size, 0, none⟩ = some (.int .i64 a) := by
  show (w.alloc (.cells #[.int .i64 a, .int .i64 b] 3)).cell? ⟨w.heap.size, 0, none⟩ = _
  rw [World.cell?_alloc_new]; rfl
theorem pair1 (w : World) (a b : Int) : ((w.alloc (.cells #[.int .i64 a, .int .i64 b] 3)).drew).cell? ⟨w.heap.size, 1, none⟩ = some (.int .i64 b) := by
  show (w.alloc (.cells #[.int .i64 a, .int .i64 b] 3)).cell? ⟨w.heap.size, 1, none⟩ = _
  rw [World.cell?_alloc_new]; rfl

set_option maxHeartbeats 1000000 in
set_option maxRecDepth 100000 in
theorem comparePlaces_any (T G O n : Nat) (key : Nat → ByteArray) (x y : El) (w : World) (ht : Tree w T G O n key) (hx : x.i < n) (hy : y.i < n) :
    Calls Ybgs.prog 9 #[.pointer (some ⟨T, 0, none⟩), ev x, ev y] w fun e w' => e = .returned (.int .i64 (cmpE key x y)) ∧ w.grownBy w' none := by
  go_enter Ybgs.func9, Ybgs.ntmps9
  unfold ev
  go_upto_region 1 with fail
  obtain ⟨b1, g1⟩ := boxed_one x w
  generalize hw1 : w.alloc (.cells #[.int .u64 x.h, .int .u32 0, .int .u32 x.i, .int .u8 x.c, .bool x.l] 41) = w1 at *
  have hs1 : w1.heap.size = w.heap.size + 1 := by rw [← hw1]; simp
  clear hw1
  obtain ⟨b2, g2⟩ := boxed_one y w1
  generalize w1.alloc (.cells #[.int .u64 y.h, .int .u32 0, .int .u32 y.i, .int .u8 y.c, .bool y.l] 41) = w2 at *
  rw [← hs1]
  replace b1 := b1.grown g2
  replace ht := (ht.grown g1 (by simp) (by simp) (by simp)).grown g2 (by simp) (by simp) (by simp)
  have hg := Hid.mk' (g1.trans g2)
  clear g1 g2 hs1
  generalize w.heap.size = A at *
  generalize w1.heap.size = B at *
  clear w1
  have hb1 := Hid.mk' b1
  have hb2 := Hid.mk' b2
  have HT := Hid.mk' ht
  clear ht
  obtain ⟨x0, x1, x2, x3, x4, sx⟩ := b1
  obtain ⟨y0, y1, y2, y3, y4, sy⟩ := b2
  go_cut [7] (fun v wc => v = .int .i64 (orE x y) ∧ w2.grownBy wc none)
  case first =>
    refine wp_region_still_tail 10 (by kernel_rfl) (by kernel_rfl) ?_
    simp only [List.take_succ_cons, List.take_zero, List.drop_succ_cons, List.drop_zero]
    still_step
    still_step
    still_step
    still_step
    still_call (cmp8_any x.c y.c _)
    still_step
    still_step
    still_step
    still_step
    still_call (cmp64_any x.h y.h _)
    refine wpStill_nil ?_
    go_wp2_with (go_at_call 11; refine (or_any _ (cmpN x.c y.c) (cmpN x.h y.h) _ (pair0 w2 _ _) (pair1 w2 _ _)).mono ?_; rintro e w1 ⟨rfl, rfl⟩)
    go_meet
    exact ⟨rfl, grown_drewN (World.grownBy_alloc w2 _ none) 1⟩
  case rest =>
    obtain ⟨rfl, hg2⟩ := hcut
    have hgg := Hid.mk' (hg.out.trans hg2)
    obtain ⟨x0, x1, x2, x3, x4, sx⟩ := hb1.out.grown hg2
    obtain ⟨y0, y1, y2, y3, y4, sy⟩ := hb2.out.grown hg2
    have ht := HT.out.grown hg2 (by simp) (by simp) (by simp)
    clear hb1 hb2 HT hg hg2
    by_cases hz : orE x y = 0
    · have hzb : (orE x y != 0) = false := by simp [hz]
      cases hxl : x.l <;> cases hyl : y.l
      · have hc : cmpE key x y = orE x y := by simp [cmpE, hxl, hyl]
        rw [hxl] at x4; rw [hyl] at y4
        go_wp2
        go_ret
        exact ⟨by rw [hc]; rfl, hgg.out⟩
      all_goals
        have hc : cmpE key x y = Lib.compareBytes (key x.i).data.toList (key y.i).data.toList := by simp [cmpE, hxl, hyl, hz]
        rw [hxl] at x4; rw [hyl] at y4
        have o1 := ht.o x.i hx
        have o2 := ht.o y.i hy
        have g0 := ht.g
        have t0 := ht.t
        have bx : (x.i : Int) < (n : Int) := by omega
        have by' : (y.i : Int) < (n : Int) := by omega
        have px : (0 : Int) ≤ (x.i : Int) := by omega
        have py : (0 : Int) ≤ (y.i : Int) := by omega
        clear ht
        go_wp2_with fail
        go_quiet (first | (go_at_call 14; exact Calls.quiet_of_same (strCompare_any (key x.i) (key y.i) _)))
        go_wp2
        go_ret
        exact ⟨by rw [hc]; rfl, grown_drewN hgg.out _⟩
    · have hzb : (orE x y != 0) = true := by simp [hz]
      have hc : cmpE key x y = orE x y := by simp [cmpE, hz]
      go_wp2
      go_ret
      exact ⟨by rw [hc]; rfl, hgg.out⟩

end Go.Proofs.YbonekuxeGreat
