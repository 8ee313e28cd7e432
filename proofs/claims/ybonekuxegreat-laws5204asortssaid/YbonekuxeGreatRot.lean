/-
  'swapRangeCmpFunc' and 'rotateCmpFunc' walked.
-/
import Derived.Test.YbonekuxeGreatProg
import Derived.Test.YbonekuxeGreatAid
namespace Go.Proofs.YbonekuxeGreat
open Go.RowKit Go.Deep Go.Proofs.YbonekuxeGreat.Plain

set_option maxRecDepth 100000 in
set_option maxHeartbeats 1000000 in
theorem swapRange_any (g s N a b n len cap : Nat) (d : Nat → El) (cv : Value) (w : World) (hrow0 : w.rowIs g 41 (N * 5) (rc d)) (hlen : s + len ≤ N) (hab : a + n ≤ b) (hb : b + n ≤ len) (hN : N ≤ 1000000) :
    Calls Ybgs.prog 22 #[.slice (some ⟨g, s * 5, none⟩) len cap, .int .i64 a, .int .i64 b, .int .i64 n, cv] w fun e w' => e = .returned (.tuple #[]) ∧ w'.rowIs g 41 (N * 5) (rc (swapR d (s + a) (s + b) n)) ∧ w.grownBy w' (some g) := by
  go_enter Ybgs.func22, Ybgs.ntmps22
  go_wp2
  go_loopw [10] (fun i wr => ∃ k : Nat, k ≤ n ∧ i = .int .i64 k ∧ wr.rowIs g 41 (N * 5) (rc (swapR d (s + a) (s + b) k)) ∧ w.grownBy wr (some g)) (fun i _ => n - (intOf i).toNat)
  case atStart => exact ⟨0, Nat.zero_le _, rfl, by rw [swapR_zero]; exact hrow0, World.grownBy.refl _ _⟩
  case round =>
    obtain ⟨k, hkn, rfl, hrow, hgr⟩ := hrel
    clear hrow0
    by_cases hlt : k < n
    · have hsw := swapR_succ d (s + a) (s + b) k (by omega)
      have HSW := Hid.mk' hsw
      clear hsw
      generalize swapR d (s + a) (s + b) k = e at *
      have x0 := rc_0 (hrow.cell (i := (s + (a + k)) * 5) (by omega))
      have y0 := rc_0 (hrow.cell (i := (s + (b + k)) * 5) (by omega))
      have fx0 := hrow.frozen ((s + (a + k)) * 5)
      have fy0 := hrow.frozen ((s + (b + k)) * 5)
      have x1 := rc_1 (hrow.cell (i := (s + (a + k)) * 5 + 1) (by omega))
      have y1 := rc_1 (hrow.cell (i := (s + (b + k)) * 5 + 1) (by omega))
      have fx1 := hrow.frozen ((s + (a + k)) * 5 + 1)
      have fy1 := hrow.frozen ((s + (b + k)) * 5 + 1)
      have x2 := rc_2 (hrow.cell (i := (s + (a + k)) * 5 + 2) (by omega))
      have y2 := rc_2 (hrow.cell (i := (s + (b + k)) * 5 + 2) (by omega))
      have fx2 := hrow.frozen ((s + (a + k)) * 5 + 2)
      have fy2 := hrow.frozen ((s + (b + k)) * 5 + 2)
      have x3 := rc_3 (hrow.cell (i := (s + (a + k)) * 5 + 3) (by omega))
      have y3 := rc_3 (hrow.cell (i := (s + (b + k)) * 5 + 3) (by omega))
      have fx3 := hrow.frozen ((s + (a + k)) * 5 + 3)
      have fy3 := hrow.frozen ((s + (b + k)) * 5 + 3)
      have x4 := rc_4 (hrow.cell (i := (s + (a + k)) * 5 + 4) (by omega))
      have y4 := rc_4 (hrow.cell (i := (s + (b + k)) * 5 + 4) (by omega))
      have fx4 := hrow.frozen ((s + (a + k)) * 5 + 4)
      have fy4 := hrow.frozen ((s + (b + k)) * 5 + 4)
      have ta : ((a : Int) + (k : Int)).toNat = a + k := by omega
      have tb : ((b : Int) + (k : Int)).toNat = b + k := by omega
      have wa : IntKind.i64.wrap ((a : Int) + (k : Int)) = (a : Int) + (k : Int) := by rw [IntKind.wrap_i64]; omega
      have wb : IntKind.i64.wrap ((b : Int) + (k : Int)) = (b : Int) + (k : Int) := by rw [IntKind.wrap_i64]; omega
      have oa : s * 5 + (a + k) * 5 = (s + (a + k)) * 5 := by omega
      have ob : s * 5 + (b + k) * 5 = (s + (b + k)) * 5 := by omega
      have i1 : (0 : Int) ≤ (a : Int) + (k : Int) := by omega
      have i2 : (a : Int) + (k : Int) < (len : Int) := by omega
      have i3 : (0 : Int) ≤ (b : Int) + (k : Int) := by omega
      have i4 : (b : Int) + (k : Int) < (len : Int) := by omega
      generalize hA : (s + (a + k)) * 5 = A at *
      generalize hZ : (s + (b + k)) * 5 = Z at *
      have HF := Hid.mk' (swap_step hrow hgr (show s + (a + k) ≠ s + (b + k) by omega) hA hZ)
      clear hrow hgr hA hZ
      go_wp2
      go_region
      go_wp2
      go_roundw
      case rel =>
        refine ⟨k + 1, by omega, by go_num, ?_, HF.out.2⟩
        rw [← HSW.out, Nat.add_assoc, Nat.add_assoc]
        exact HF.out.1
      case measure => simp [intOf]; omega
    · obtain rfl : k = n := by omega
      go_wp2
      go_end0
      exact ⟨rfl, hrow, hgr⟩

set_option maxRecDepth 100000 in
set_option maxHeartbeats 1000000 in
theorem rotate_any (g s N a m b len cap : Nat) (d : Nat → El) (cv : Value) (w : World) (hrow0 : w.rowIs g 41 (N * 5) (rc d)) (hlen : s + len ≤ N) (ham : a < m) (hmb : m < b) (hb : b ≤ len) (hN : N ≤ 1000000) :
    Calls Ybgs.prog 20 #[.slice (some ⟨g, s * 5, none⟩) len cap, .int .i64 a, .int .i64 m, .int .i64 b, cv] w fun e w' => e = .returned (.tuple #[]) ∧ w'.rowIs g 41 (N * 5) (rc (rot d (s + a) (s + m) (s + b))) ∧ w.grownBy w' (some g) := by
  go_enter Ybgs.func20, Ybgs.ntmps20
  go_wp2
  go_loopw [10, 11] (fun vi vj wr => ∃ i j : Nat, 0 < i ∧ 0 < j ∧ i ≤ m - a ∧ j ≤ b - m ∧ vi = .int .i64 i ∧ vj = .int .i64 j ∧ ∃ e, wr.rowIs g 41 (N * 5) (rc e) ∧ Hid (rot e (s + m - i) (s + m) (s + m + j) = rot d (s + a) (s + m) (s + b)) ∧ w.grownBy wr (some g)) (fun vi vj _ => (intOf vi).toNat + (intOf vj).toNat)
  case atStart =>
    refine ⟨m - a, b - m, by omega, by omega, Nat.le_refl _, Nat.le_refl _, by go_num, by go_num, d, hrow0, ?_, World.grownBy.refl _ _⟩
    show rot d (s + m - (m - a)) (s + m) (s + m + (b - m)) = _
    rw [show s + m - (m - a) = s + a from by omega, show s + m + (b - m) = s + b from by omega]
  case round =>
    obtain ⟨i, j, hi, hj, hi2, hj2, rfl, rfl, e, hrow, hrot, hgr⟩ := hrel
    clear hrow0
    obtain ⟨mi, hmi⟩ : ∃ q, m = q + i := ⟨m - i, by omega⟩
    have emi : (m : Int) - (i : Int) = (mi : Int) := by omega
    rcases Nat.lt_trichotomy i j with h | h | h
    · have ne : ((i : Int) == (j : Int)) = false := by simp; omega
      obtain ⟨mj, hmj⟩ : ∃ q, m + j = q + i := ⟨m + j - i, by omega⟩
      have emj : (m : Int) + (j : Int) - (i : Int) = (mj : Int) := by omega
      have hc := swapRange_any g s N mi mj i len cap e cv wr hrow hlen (by omega) (by omega) hN
      have hl := rot_less e (s + m) i j (by omega) h
      rw [show s + m - i = s + mi from by omega, show s + m + j - i = s + mj from by omega] at hl
      clear hmj
      have HC := Hid.mk' hc
      have HL := Hid.mk' hl
      have HMI := Hid.mk' hmi
      clear hc hl hrow hmi
      go_wp2_with fail
      refine HC.out.mono ?_
      rintro e1 w1 ⟨rfl, hrow1, hg1⟩
      clear HC
      go_wp2
      go_roundw
      case rel =>
        have hmi := HMI.out
        refine ⟨i, j - i, hi, by omega, hi2, by omega, rfl, by go_num, _, hrow1, ?_, grown_trans hgr hg1⟩
        show rot _ (s + m - i) (s + m) (s + m + (j - i)) = _
        rw [show s + m - i = s + mi from by omega, HL.out, ← hrot.out, show s + m - i = s + mi from by omega]
      case measure => simp [intOf]; omega
    · subst h
      have ne : ((i : Int) == (i : Int)) = true := by simp
      have hc := swapRange_any g s N mi m i len cap e cv wr hrow hlen (by omega) (by omega) hN
      have hl := rot_even e (s + m) i (by omega)
      rw [show s + m - i = s + mi from by omega] at hl
      have HC := Hid.mk' hc
      have HMI := Hid.mk' hmi
      have HL := Hid.mk' hl
      clear hc hrow hmi hl
      go_wp2_with fail
      refine HC.out.mono ?_
      rintro e1 w1 ⟨rfl, hrow1, hg1⟩
      go_wp2
      go_end0
      refine ⟨rfl, ?_, grown_trans hgr hg1⟩
      have hmi := HMI.out
      rw [← hrot.out, show s + m - i = s + mi from by omega, ← HL.out]
      exact hrow1
    · have ne : ((i : Int) == (j : Int)) = false := by simp; omega
      have hc := swapRange_any g s N mi m j len cap e cv wr hrow hlen (by omega) (by omega) hN
      have hl := rot_more e (s + m) i j (by omega) h
      rw [show s + m - i = s + mi from by omega] at hl
      have HC := Hid.mk' hc
      have HL := Hid.mk' hl
      have HMI := Hid.mk' hmi
      clear hc hl hrow hmi
      go_wp2_with fail
      refine HC.out.mono ?_
      rintro e1 w1 ⟨rfl, hrow1, hg1⟩
      clear HC
      go_wp2
      go_roundw
      case rel =>
        have hmi := HMI.out
        refine ⟨i - j, j, by omega, hj, by omega, hj2, by go_num, rfl, _, hrow1, ?_, grown_trans hgr hg1⟩
        show rot _ (s + m - (i - j)) (s + m) (s + m + j) = _
        rw [HL.out, ← hrot.out, show s + m - i = s + mi from by omega]
      case measure => simp [intOf]; omega

end Go.Proofs.YbonekuxeGreat
