/-
  'zzs5203bbuild' walked: a nil slice gives nil; any other gives a new row of bindings, each the capture and the pointer that the pick stands for.
-/
import Derived.Test.YbulkdcsqProg
import Derived.Test.YbulkdcsqAid
namespace Go.Proofs.Ybulkdcsq
open Go.RowKit Go.Deep Go.Proofs.Ybulkdcsq.Aid

theorem Yba.info35 : (Yba.prog.info? 35).map (fun i => (i.zero, i.size, i.bytes)) = some (some (.agg #[.int .i64 0, .pointer none]), 2, 16) := by kernel_rfl

/-- the pointer that a pick stands for, the pool lying in block pb -/
def node (pb : Nat) (k : Int) : Value := if k % 5 < 4 then .pointer (some ⟨pb, (k % 5).toNat * 9, none⟩) else .pointer none

/-- the cells of the bindings -/
def bcell (pb : Nat) (C K : Nat → Int) (j : Nat) : Value := if j % 2 = 0 then .int .i64 (C (j / 2)) else node pb (K (j / 2))

theorem build_step {B pb k n : Nat} {C K : Nat → Int} {wr : World} {f : Nat → Value} (hrow : wr.rowIs B 35 (n * 2) f) (hf : ∀ j, j < k * 2 → f j = bcell pb C K j) (v : Value) (hv : v = node pb (K k)) :
    ∃ f, ((wr.setCell ⟨B, k * 2, none⟩ (.int .i64 (C k))).setCell ⟨B, k * 2 + 1, none⟩ v).rowIs B 35 (n * 2) f ∧ ∀ j, j < (k + 1) * 2 → f j = bcell pb C K j := by
  refine ⟨_, (hrow.set (k * 2) _).set (k * 2 + 1) _, fun j hj => ?_⟩
  subst hv
  by_cases h1 : j = k * 2 + 1
  · subst h1
    simp only [if_true, bcell]
    rw [if_neg (by omega), show (k * 2 + 1) / 2 = k from by omega]
  · by_cases h2 : j = k * 2
    · subst h2
      simp only [bcell]
      rw [if_neg h1, if_pos trivial, if_pos (by omega), show k * 2 / 2 = k from by omega]
    · simp only [if_neg h1, if_neg h2]
      exact hf j (by omega)

set_option maxHeartbeats 400000 in
theorem build_any (b off n cap pb : Nat) (C K : Nat → Int) (w : World) (hn : n ≤ 1024) (hk : ∀ i, i < n → 0 ≤ K i ∧ K i ≤ 255)
    (hc0 : ∀ i, i < n → w.cell? ⟨b, off + i * 2, none⟩ = some (.int .i64 (C i))) (hc1 : ∀ i, i < n → w.cell? ⟨b, off + i * 2 + 1, none⟩ = some (.int .u8 (K i))) :
    Calls Yba.prog 4 #[.slice (some ⟨b, off, none⟩) n cap, .slice (some ⟨pb, 0, none⟩) 4 4] w fun e w' => e = .returned (.slice (some ⟨w.heap.size, 0, none⟩) n n) ∧
      w'.rowIs w.heap.size 35 (n * 2) (bcell pb C K) ∧ Below w.heap.size w w' := by
  obtain ⟨i0, hi, hz0, hz1, hz2⟩ := info_parts Yba.info35
  have hmk := fun w : World => run_make (P := Yba.prog) w 27 35 i0 _ Yba.underlying27 hi hz0 .i64 .i64 n n (by omega) (Int.le_refl _) (by rw [hz2]; omega) (by omega)
  simp only [hz1, Int.toNat_natCast] at hmk
  have hq := fun (w : World) (a : Option Addr) (n c n' c' : Nat) => Lib.run_eql_slice_nil (P := Yba.prog) w 22 32 a n c n' c' Yba.underlying22
  go_enter Yba.func4, Yba.ntmps4
  go_wp2
  go_loopw [6] (fun i wr => ∃ k : Nat, k ≤ n ∧ i = .int .i64 k ∧ (∃ f, wr.rowIs w.heap.size 35 (n * 2) f ∧ ∀ j, j < k * 2 → f j = bcell pb C K j) ∧ Below w.heap.size w wr)
    (fun i _ => n - (intOf i).toNat)
  case atStart => exact ⟨0, Nat.zero_le _, rfl, ⟨_, rowIs_made_wide _ _ _ _, fun j hj => by omega⟩, (Below.refl _ _).alloc (Nat.le_refl _) _⟩
  case round =>
    obtain ⟨k, hkn, rfl, ⟨f, hrow, hf⟩, hnx⟩ := hrel
    by_cases hlt : k < n
    · have hbB : b < w.heap.size := World.block_lt_of_cell? w _ (hc0 k hlt)
      have g0 : wr.cell? ⟨b, off + k * 2, none⟩ = some (.int .i64 (C k)) := (hnx.cell (by exact hbB)).trans (hc0 k hlt)
      have g1 : wr.cell? ⟨b, off + k * 2 + 1, none⟩ = some (.int .u8 (K k)) := (hnx.cell (by exact hbB)).trans (hc1 k hlt)
      obtain ⟨hK0, hK1⟩ := hk k hlt
      have r0 := hrow.cell (i := k * 2) (by omega)
      have r1 := hrow.cell (i := k * 2 + 1) (by omega)
      have z0 := hrow.frozen (k * 2)
      have z1 := hrow.frozen (k * 2 + 1)
      have HF : Hid (∀ j, j < k * 2 → f j = bcell pb C K j) := hf
      clear hf hc0 hc1 hk
      by_cases h4 : K k % 5 < 4
      · go_wp2
        go_roundw
        case rel => exact ⟨k + 1, by omega, by go_num, build_step hrow HF.out _ (by simp [node, h4]), (hnx.setCell (Nat.le_refl _) _).setCell (Nat.le_refl _) _⟩
        case measure => simp [intOf]; omega
      · go_wp2
        go_roundw
        case rel => exact ⟨k + 1, by omega, by go_num, build_step hrow HF.out _ (by simp [node, h4]), (hnx.setCell (Nat.le_refl _) _).setCell (Nat.le_refl _) _⟩
        case measure => simp [intOf]; omega
    · go_wp2
      go_ret
      obtain rfl : k = n := by omega
      exact ⟨rfl, hrow.congr hf, hnx⟩

set_option maxHeartbeats 400000 in
theorem build_zero (ao : Option Addr) (cap : Nat) (vp : Value) (w : World) :
    Calls Yba.prog 4 #[.slice ao 0 cap, vp] w fun e w' => ∃ bo, e = .returned (.slice bo 0 0) ∧ Below w.heap.size w w' := by
  obtain ⟨i0, hi, hz0, hz1, hz2⟩ := info_parts Yba.info35
  have hmk := fun w : World => run_make (P := Yba.prog) w 27 35 i0 _ Yba.underlying27 hi hz0 .i64 .i64 0 0 (by omega) (Int.le_refl _) (by omega) (by omega)
  simp only [hz1] at hmk
  have hq := fun (w : World) (a : Option Addr) (n c n' c' : Nat) => Lib.run_eql_slice_nil (P := Yba.prog) w 22 32 a n c n' c' Yba.underlying22
  cases ao with
  | none =>
    go_enter Yba.func4, Yba.ntmps4
    go_wp2
    go_ret
    exact ⟨_, rfl, Below.refl _ _⟩
  | some a =>
    go_enter Yba.func4, Yba.ntmps4
    go_wp2
    refine wp_loop_rounds 1 ?_
    rw [rounds_succ]
    go_wp2
    go_ret
    exact ⟨_, rfl, (Below.refl _ _).alloc (Nat.le_refl _) _⟩

end Go.Proofs.Ybulkdcsq
