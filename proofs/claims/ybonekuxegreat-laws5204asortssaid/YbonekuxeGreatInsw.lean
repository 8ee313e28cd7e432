/-
  'insertionSortCmpFunc' walked.
-/
import Derived.Test.YbonekuxeGreatGrow
namespace Go.Proofs.YbonekuxeGreat
open Go.RowKit Go.Deep Go.Proofs.YbonekuxeGreat.Plain

set_option maxRecDepth 100000 in
set_option maxHeartbeats 2000000 in
theorem insertion_any (T G O n : Nat) (key : Nat → ByteArray) (Q : El → Prop) (R : El → El → Prop) (ho : Ord Q key n R) (g s N a b len cap : Nat) (d : Nat → El) (w : World) (hT : g ≠ T) (hG : g ≠ G) (hO : g ≠ O) (ht0 : Tree w T G O n key)
    (hrow0 : w.rowIs g 41 (N * 5) (rc d)) (hlen : s + len ≤ N) (hab : a ≤ b) (hb : b ≤ len) (hN : N ≤ 1000000) (hQ0 : ∀ k, s + a ≤ k → k < s + b → Q (d k)) (hinc : ∀ k l, s + a ≤ k → k < l → l < s + b → (d k).i < (d l).i) :
    Calls Ybgs.prog 15 #[.slice (some ⟨g, s * 5, none⟩) len cap, .int .i64 a, .int .i64 b, cmpV T] w fun e w' => e = .returned (.tuple #[]) ∧ (∃ d', w'.rowIs g 41 (N * 5) (rc d') ∧ Same (s + a) (s + b) d d' ∧ Sorted R (s + a) (s + b) d') ∧ w.grownBy w' (some g) := by
  have HO := Hid.mk' ho
  have HTT := Hid.mk' hT
  have HGG := Hid.mk' hG
  have HOO := Hid.mk' hO
  have HT0 := Hid.mk' ht0
  have HQ := Hid.mk' hQ0
  have HST := Hid.mk' (Outer.start (R := R) (ix := El.i) (s + a) (s + b) d hinc)
  clear ho hT hG hO ht0 hQ0 hinc
  go_enter Ybgs.func15, Ybgs.ntmps15
  unfold cmpV
  go_wp2
  go_loopw [8] (fun vi wr => ∃ i : Nat, a + 1 ≤ i ∧ (i ≤ b ∨ i = a + 1) ∧ vi = .int .i64 i ∧ ∃ e, wr.rowIs g 41 (N * 5) (rc e) ∧ Hid (Outer R El.i (s + a) (s + b) (s + i) d e) ∧ w.grownBy wr (some g)) (fun vi _ => b - (intOf vi).toNat)
  case atStart => exact ⟨a + 1, Nat.le_refl _, .inr rfl, by go_num, d, hrow0, HST, World.grownBy.refl _ _⟩
  case round =>
    obtain ⟨i, hi1, hi2, rfl, e0, hrow, HOut, hgr⟩ := hrel
    clear hrow0
    by_cases hlt : i < b
    · go_wp2
      go_loopw [9] (fun vj wr => ∃ j : Nat, a ≤ j ∧ j ≤ i ∧ vj = .int .i64 j ∧ ∃ e, wr.rowIs g 41 (N * 5) (rc e) ∧ Hid (Inner R El.i (s + a) (s + i) (s + j) e0 e) ∧ w.grownBy wr (some g)) (fun vj _ => (intOf vj).toNat)
      case atStart => exact ⟨i, by omega, Nat.le_refl _, rfl, e0, hrow, Inner.start HOut.out (by omega), hgr⟩
      case round =>
        obtain ⟨j, hj1, hj2, rfl, e, hrow, HIn, hgr⟩ := hrel
        by_cases hja : a < j
        · obtain ⟨q, hq⟩ : ∃ q, j = q + 1 := ⟨j - 1, by omega⟩
          have HE : Hid (∀ k, s + a ≤ k → k < s + b → Q (e k)) := same_Q (HOut.out.same.trans (HIn.out.same.widen (Nat.le_refl _) (by omega))) HQ.out
          have qx := HE.out (s + j) (by omega) (by omega)
          have qy := HE.out (s + q) (by omega) (by omega)
          have hlow := HIn.out.low (s + q) (by omega) (by omega) (by omega)
          have HD := Hid.mk' (HO.out.dec _ _ qy qx hlow)
          have htr := HT0.out.grown hgr (by simpa using Ne.symm HTT.out) (by simpa using Ne.symm HGG.out) (by simpa using Ne.symm HOO.out)
          have hcm := cmp_gr T G O n key (e (s + j)) (e (s + q)) wr htr (HO.out.bnd _ qx) (HO.out.bnd _ qy)
          have hA' : (s + j) * 5 = s * 5 + j * 5 := by omega
          have hZ' : (s + q) * 5 = s * 5 + q * 5 := by omega
          clear htr qx qy hlow HE
          have x0 := gr_cell (rc_0 (hrow.cell (i := (s + j) * 5) (by omega)))
          have y0 := gr_cell (rc_0 (hrow.cell (i := (s + q) * 5) (by omega)))
          have x1 := gr_cell (rc_1 (hrow.cell (i := (s + j) * 5 + 1) (by omega)))
          have y1 := gr_cell (rc_1 (hrow.cell (i := (s + q) * 5 + 1) (by omega)))
          have x2 := gr_cell (rc_2 (hrow.cell (i := (s + j) * 5 + 2) (by omega)))
          have y2 := gr_cell (rc_2 (hrow.cell (i := (s + q) * 5 + 2) (by omega)))
          have x3 := gr_cell (rc_3 (hrow.cell (i := (s + j) * 5 + 3) (by omega)))
          have y3 := gr_cell (rc_3 (hrow.cell (i := (s + q) * 5 + 3) (by omega)))
          have x4 := gr_cell (rc_4 (hrow.cell (i := (s + j) * 5 + 4) (by omega)))
          have y4 := gr_cell (rc_4 (hrow.cell (i := (s + q) * 5 + 4) (by omega)))
          have wa : IntKind.i64.wrap ((j : Int) - 1) = (q : Int) := by rw [IntKind.wrap_i64]; omega
          have eq1 : (j : Int) - 1 = (q : Int) := by omega
          have i1 : (0 : Int) ≤ (j : Int) := by omega
          have i2 : (j : Int) < (len : Int) := by omega
          have i3 : (0 : Int) ≤ (q : Int) := by omega
          have i4 : (q : Int) < (len : Int) := by omega
          have hja' : (a : Int) < (j : Int) := by omega
          have HQJ := Hid.mk' hq
          clear hq
          generalize hA : (s + j) * 5 = A at *
          generalize hZ : (s + q) * 5 = Z at *
          have oa := hA'.symm
          have ob := hZ'.symm
          clear hA' hZ'
          have HAA := Hid.mk' hA
          have HZZ := Hid.mk' hZ
          clear hA hZ
          have HROW := Hid.mk' hrow
          have HGR := Hid.mk' hgr
          clear hrow hgr
          generalize hc : cmpE key (e (s + j)) (e (s + q)) = c at *
          have HCM := Hid.mk' hcm
          clear hcm hc
          unfold ev at HCM
          go_upto_region 4 with fail
          have hne : Nonempty (Gr wr) := ⟨⟨wr, World.grownBy.refl _ _⟩⟩
          refine wp_region_grow (by kernel_rfl) (by kernel_rfl) ?_
          repeat (go_big_quiet_step (first | (go_at_call 9; exact HCM.out _)))
          refine wpQuiet_nil ?_
          intro _ hw'
          obtain ⟨nq, hw''⟩ := hw'
          subst hw''
          have hrow := row_keep HROW.out nq.grown (by simp)
          have hgr := grown_trans HGR.out (grown_some nq.grown)
          by_cases hcn : c < 0
          · have hcb : decide (c < 0) = true := by simp [hcn]
            have fx0 := hrow.frozen A
            have fy0 := hrow.frozen Z
            have fx1 := hrow.frozen (A + 1)
            have fy1 := hrow.frozen (Z + 1)
            have fx2 := hrow.frozen (A + 2)
            have fy2 := hrow.frozen (Z + 2)
            have fx3 := hrow.frozen (A + 3)
            have fy3 := hrow.frozen (Z + 3)
            have fx4 := hrow.frozen (A + 4)
            have fy4 := hrow.frozen (Z + 4)
            have HF := Hid.mk' (swap_step hrow hgr (show s + j ≠ s + q by have := HQJ.out; omega) HAA.out HZZ.out)
            clear hrow hgr
            replace x0 := x0 nq
            replace y0 := y0 nq
            replace x1 := x1 nq
            replace y1 := y1 nq
            replace x2 := x2 nq
            replace y2 := y2 nq
            replace x3 := x3 nq
            replace y3 := y3 nq
            replace x4 := x4 nq
            replace y4 := y4 nq
            generalize nq.out = W at *
            have wq : IntKind.i64.wrap (q : Int) = (q : Int) := by rw [IntKind.wrap_i64]; omega
            go_wp2
            go_region
            go_wp2
            go_roundw
            case rel =>
              refine ⟨q, by have := HQJ.out; omega, by have := HQJ.out; omega, by go_num, _, HF.out.1, ?_, HF.out.2⟩
              have hq := HQJ.out
              subst hq
              have hr : R (e (s + (q + 1))) (e (s + q)) := by
                rcases HD.out with h | h
                · exact h.2
                · exact absurd hcn (by have := h.1; omega)
              have hin : Inner R El.i (s + a) (s + i) ((s + q) + 1) e0 e := HIn.out
              have hst := hin.step (by omega) (by omega) hr
              exact hst
            case measure => simp [intOf]; have := HQJ.out; omega
          · have hcb : decide (c < 0) = false := by simp [hcn]
            have hr : R (e (s + q)) (e (s + j)) := by
              rcases HD.out with h | h
              · exact absurd h.1 hcn
              · exact h.2
            have HDN := Hid.mk' (HIn.out.done HO.out.tr HOut.out (by omega) (by omega) (by omega) (fun _ => by rw [show s + j - 1 = s + q from by have := HQJ.out; omega]; exact hr))
            clear hr
            generalize nq.out = W at *
            go_wp2
            go_roundw
            case rel => exact ⟨i + 1, by omega, by omega, by go_num, e, hrow, HDN, hgr⟩
            case measure => simp [intOf]; omega
        · have hja' : ¬ (a : Int) < (j : Int) := by omega
          have hjb : decide ((a : Int) < (j : Int)) = false := by simp; omega
          have HDN := Hid.mk' (HIn.out.done HO.out.tr HOut.out (by omega) (by omega) (by omega) (fun h => by omega))
          go_wp2_with fail
          go_quiet (fail)
          have hrow := row_keep hrow (grown_drewN (World.grownBy.refl _ none) nq) (by simp)
          have hgr := grown_drewN hgr nq
          generalize wr.drewN nq = W at *
          go_wp2
          go_roundw
          case rel => exact ⟨i + 1, by omega, by omega, by go_num, e, hrow, HDN, hgr⟩
          case measure => simp [intOf]; omega
    · go_wp2
      go_end0
      obtain ⟨h1, h2⟩ := HOut.out.fin (by omega)
      exact ⟨rfl, ⟨e0, hrow, h1, h2⟩, hgr⟩

end Go.Proofs.YbonekuxeGreat
