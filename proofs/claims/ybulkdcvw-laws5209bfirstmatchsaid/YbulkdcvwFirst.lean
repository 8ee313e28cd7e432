/-
  'LawS5209BFirstMatch' walked.
-/
import Derived.Test.YbulkdcvwSender
import Derived.Deep.QuietTactic
import Derived.BigQuiet
import Derived.Deep.Cut
namespace Go.Proofs.Ybulkdcvw
open Go.RowKit Go.Deep Go.Proofs.Ybulkdcvw.Aid

theorem Yba.info42 : (Yba.prog.info? 42).map (fun i => (i.zero, i.size, i.bytes)) = some (some (.agg #[.string ByteArray.empty, .int .u64 0, .int .u64 0, .pointer none, .int .u16 0, .int .u8 0, .int .u64 0, .int .u64 0, .string ByteArray.empty]), 9, 88) := by kernel_rfl

theorem Yba.size47 : (Yba.prog.info? 47).map (·.size) = some 20 := by kernel_rfl

theorem run_build47 (ping F : ByteArray) (a : Option Addr) (n c : Nat) (w : World) : (Instr.build 47 #[(0, .string ping), (2, .string F), (12, .slice a n c)]).run Yba.prog w = .ok (msg ping F (.slice a n c)) w := by kernel_rfl

/-- What the law is told of the slice that came in. -/
def IsEnts (w : World) (a0 : Option Addr) (n : Nat) (S : Nat → ByteArray) (G St : Nat → Nat) : Prop :=
  0 < n → ∃ b off, a0 = some ⟨b, off, none⟩ ∧ b < w.heap.size ∧ ∀ i, i < n → w.cell? ⟨b, off + i * 3, none⟩ = some (.string (S i)) ∧ w.cell? ⟨b, off + i * 3 + 1, none⟩ = some (.int .u64 (G i)) ∧ w.cell? ⟨b, off + i * 3 + 2, none⟩ = some (.int .u8 (St i))

theorem fill_step {B k n : Nat} {S : Nat → ByteArray} {G St : Nat → Nat} {wr : World} {f : Nat → Value} (hrow : wr.rowIs B 42 (n * 9) f) (hf : ∀ j, j < k * 9 → f j = mcell S G St j) :
    ∃ f, (((((((((wr.setCell ⟨B, k * 9, none⟩ (.string (S k))).setCell ⟨B, k * 9 + 1, none⟩ (.int .u64 0)).setCell ⟨B, k * 9 + 2, none⟩ (.int .u64 0)).setCell ⟨B, k * 9 + 3, none⟩ (.pointer none)).setCell ⟨B, k * 9 + 4, none⟩ (.int .u16 0)).setCell ⟨B, k * 9 + 5, none⟩ (.int .u8 (St k))).setCell
      ⟨B, k * 9 + 6, none⟩ (.int .u64 (G k))).setCell ⟨B, k * 9 + 7, none⟩ (.int .u64 k)).setCell ⟨B, k * 9 + 8, none⟩ (.string { data := #[] })).drew.rowIs B 42 (n * 9) f ∧ ∀ j, j < (k + 1) * 9 → f j = mcell S G St j := by
  refine ⟨_, (((((((((hrow.set _ _).set _ _).set _ _).set _ _).set _ _).set _ _).set _ _).set _ _).set _ _).drew, fun j hj => ?_⟩
  by_cases hk : j < k * 9
  · simp only [show j ≠ k * 9 + 8 from by omega, show j ≠ k * 9 + 7 from by omega, show j ≠ k * 9 + 6 from by omega, show j ≠ k * 9 + 5 from by omega, show j ≠ k * 9 + 4 from by omega, show j ≠ k * 9 + 3 from by omega, show j ≠ k * 9 + 2 from by omega, show j ≠ k * 9 + 1 from by omega,
      show j ≠ k * 9 from by omega, if_false]
    exact hf j hk
  · have hc : j = k * 9 ∨ j = k * 9 + 1 ∨ j = k * 9 + 2 ∨ j = k * 9 + 3 ∨ j = k * 9 + 4 ∨ j = k * 9 + 5 ∨ j = k * 9 + 6 ∨ j = k * 9 + 7 ∨ j = k * 9 + 8 := by omega
    rcases hc with h | h | h | h | h | h | h | h | h
    · subst h; simpa using (Option.some.inj (mcell_0 (S := S) (G := G) (St := St) (k := k) rfl)).symm
    · subst h; simpa using (Option.some.inj (mcell_1 (S := S) (G := G) (St := St) (k := k) rfl)).symm
    · subst h; simpa using (Option.some.inj (mcell_2 (S := S) (G := G) (St := St) (k := k) rfl)).symm
    · subst h; simpa using (Option.some.inj (mcell_3 (S := S) (G := G) (St := St) (k := k) rfl)).symm
    · subst h; simpa using (Option.some.inj (mcell_4 (S := S) (G := G) (St := St) (k := k) rfl)).symm
    · subst h; simpa using (Option.some.inj (mcell_5 (S := S) (G := G) (St := St) (k := k) rfl)).symm
    · subst h; simpa using (Option.some.inj (mcell_6 (S := S) (G := G) (St := St) (k := k) rfl)).symm
    · subst h; simpa using (Option.some.inj (mcell_7 (S := S) (G := G) (St := St) (k := k) rfl)).symm
    · subst h
      have h8 := (Option.some.inj (mcell_8 (S := S) (G := G) (St := St) (k := k) rfl)).symm
      have h9 : (Value.string { data := #[] }) = .string ByteArray.empty := rfl
      rw [← h9] at h8
      simpa using h8

set_option maxRecDepth 100000 in
set_option maxHeartbeats 400000 in
theorem first_in (a0 : Option Addr) (n cap P : Nat) (S : Nat → ByteArray) (G St : Nat → Nat) (F0 : ByteArray) (w : World) (hn : n ≤ 1024) (hP : P < 18446744073709551616) (hG : ∀ i, G i < 18446744073709551616) (hSt : ∀ i, St i < 256) (HD : IsEnts w a0 n S G St)
    (sel : Nat) (hsel : (P : Int) % ((n : Int) + 1) = (sel : Int)) (hs : sel < n) :
    Calls Yba.prog 3 #[.slice a0 n cap, .string F0, .int .u64 P] w fun e w' => e = .returned (.bool true) ∧ Below w.heap.size w w' := by
  obtain ⟨i0, hi, hz0, hz1, hz2⟩ := info_parts Yba.info42
  have hmk := fun w : World => run_make (P := Yba.prog) w 24 42 i0 _ Yba.underlying24 hi hz0 .i64 .i64 n n (by omega) (Int.le_refl _) (by rw [hz2]; omega) (by omega)
  simp only [hz1, Int.toNat_natCast] at hmk
  have HG := Hid.mk' hG
  have HS := Hid.mk' hSt
  clear hG hSt
  go_enter Yba.func3, Yba.ntmps3
  go_wp2
  go_loopw [8] (fun i wr => ∃ k : Nat, k ≤ n ∧ i = .int .i64 k ∧ (∃ f, wr.rowIs w.heap.size 42 (n * 9) f ∧ ∀ j, j < k * 9 → f j = mcell S G St j) ∧ Below w.heap.size w wr) (fun i _ => n - (intOf i).toNat)
  case atStart => exact ⟨0, Nat.zero_le _, rfl, ⟨_, rowIs_made_wide _ _ _ _, fun j hj => by omega⟩, (Below.refl _ _).alloc (Nat.le_refl _) _⟩
  case round =>
    obtain ⟨k, hkn, rfl, ⟨f, hrow, hf⟩, hnx⟩ := hrel
    have HF := Hid.mk' hf
    clear hf
    by_cases hlt : k < n
    · obtain ⟨b, off, rfl, hb, hc⟩ := HD (by omega)
      obtain ⟨c0, c1, c2⟩ := hc k hlt
      rw [← hnx.cell (by exact hb)] at c0 c1 c2
      have r0 := hrow.cell (i := k * 9) (by omega)
      have r1 := hrow.cell (i := k * 9 + 1) (by omega)
      have r2 := hrow.cell (i := k * 9 + 2) (by omega)
      have r3 := hrow.cell (i := k * 9 + 3) (by omega)
      have r4 := hrow.cell (i := k * 9 + 4) (by omega)
      have r5 := hrow.cell (i := k * 9 + 5) (by omega)
      have r6 := hrow.cell (i := k * 9 + 6) (by omega)
      have r7 := hrow.cell (i := k * 9 + 7) (by omega)
      have r8 := hrow.cell (i := k * 9 + 8) (by omega)
      have z0 := hrow.frozen (k * 9)
      have z1 := hrow.frozen (k * 9 + 1)
      have z2 := hrow.frozen (k * 9 + 2)
      have z3 := hrow.frozen (k * 9 + 3)
      have z4 := hrow.frozen (k * 9 + 4)
      have z5 := hrow.frozen (k * 9 + 5)
      have z6 := hrow.frozen (k * 9 + 6)
      have z7 := hrow.frozen (k * 9 + 7)
      have z8 := hrow.frozen (k * 9 + 8)
      have i1 : (0 : Int) ≤ (k : Int) := by omega
      have i2 : (k : Int) < (n : Int) := by omega
      have i3 : IntKind.u64.wrap (k : Int) = (k : Int) := by rw [IntKind.wrap_u64]; omega
      clear hc HD hmk
      go_wp2
      go_region
      go_wp2
      go_roundw
      case rel =>
        exact ⟨k + 1, by omega, by go_num, fill_step hrow HF.out, (((((((((hnx.setCell (Nat.le_refl _) _).setCell (Nat.le_refl _) _).setCell (Nat.le_refl _) _).setCell (Nat.le_refl _) _).setCell (Nat.le_refl _) _).setCell (Nat.le_refl _) _).setCell (Nat.le_refl _) _).setCell (Nat.le_refl _) _).setCell (Nat.le_refl _) _).drew⟩
      case measure => simp [intOf]; omega
    · obtain rfl : k = n := by omega
      have hrow2 := hrow.congr HF.out
      clear hrow HF hmk
      obtain ⟨b, off, rfl, hb, hc⟩ := HD (by omega)
      have hcs := (hnx.cell (p := ⟨b, off + sel * 3, none⟩) hb).trans (hc sel hs).1
      have HC := Hid.mk' hc
      have HR := Hid.mk' hrow2
      clear hc hrow2 HD
      go_upto_region 11 with fail
      go_wp2_with (first | (refine wpList_build_at rfl 47 #[(0, .const (.string { data := #[112, 105, 110, 103] })), (2, .tmp 65), (12, .tmp 66)] rfl #[(0, .string { data := #[112, 105, 110, 103] }), (2, .string (S sel)), (12, .slice (some ⟨w.heap.size, 0, none⟩) k k)] rfl _ (run_build47 _ _ _ _ _ _) ?_) | (refine wpList_store_new rfl 47 (.tmp 10) (.tmp 67) rfl _ _ rfl rfl Yba.size47 rfl rfl ?_) | (refine wpList_load_row rfl 47 (.tmp 10) rfl wr.heap.size rfl 47 _ (0, 0) _ (heap_alloc_last _ _) Yba.underlying47 rfl Yba.size47 ?_))
      have hrow3 := HR.out.alloc (Obj.cells #[.string { data := #[112, 105, 110, 103] }, .int .u64 0, .string (S sel), .string ByteArray.empty, .int .u64 0, .int .u64 0, .pointer none, .int .u16 0, .string ByteArray.empty, .int .i64 0, .int .u64 0, .int .u64 0, .pointer none, .int .u16 0, .pointer none, .pointer none, .int .u64 0, .int .u64 0, .slice (some ⟨w.heap.size, 0, none⟩) k k, .slice none 0 0] 47)
      have hb1 := hnx.alloc hnx.size (Obj.cells #[.string { data := #[112, 105, 110, 103] }, .int .u64 0, .string (S sel), .string ByteArray.empty, .int .u64 0, .int .u64 0, .pointer none, .int .u16 0, .string ByteArray.empty, .int .i64 0, .int .u64 0, .int .u64 0, .pointer none, .int .u16 0, .pointer none, .pointer none, .int .u64 0, .int .u64 0, .slice (some ⟨w.heap.size, 0, none⟩) k k, .slice none 0 0] 47)
      generalize hw1 : wr.alloc (Obj.cells #[.string { data := #[112, 105, 110, 103] }, .int .u64 0, .string (S sel), .string ByteArray.empty, .int .u64 0, .int .u64 0, .pointer none, .int .u16 0, .string ByteArray.empty, .int .i64 0, .int .u64 0, .int .u64 0, .pointer none, .int .u16 0, .pointer none, .pointer none, .int .u64 0, .int .u64 0, .slice (some ⟨w.heap.size, 0, none⟩) k k, .slice none 0 0] 47) = w1 at *
      clear hw1
      show Calls Yba.prog 5 #[msg { data := #[112, 105, 110, 103] } (S sel) (.slice (some ⟨w.heap.size, 0, none⟩) k k)] _ _
      refine (sender_any k w.heap.size S G St _ (S sel) w1 hn hrow3).mono ?_
      rintro e w2 ⟨hres, hb2⟩
      have hb02 : Below w.heap.size w w2 := hb1.trans (hb2.mono hb1.size)
      have hrow4 := rowIs_below hrow3 hb2 hrow3.lt
      have hsz2 : w.heap.size < w2.heap.size := hrow4.lt
      rcases hres with ⟨j, hj, heq, hmin, rfl⟩ | ⟨hall, rfl⟩
      case inr => have := hall sel hs; simp at this
      simp only [member]
      have HMIN := Hid.mk' hmin
      have HR4 := Hid.mk' hrow4
      have hSj := HS.out j
      have hGj := HG.out j
      clear hmin hrow3 hrow4 HR hb1 hb2 hnx hcs
      have hbw : b < w2.heap.size := by omega
      go_wp2
      have hblk := heap_alloc_last w2 (Obj.cells #[.string (S j), .int .u64 0, .int .u64 0, .pointer none, .int .u16 0, .int .u8 (St j), .int .u64 (G j), .int .u64 j, .string ByteArray.empty] 42)
      have hb23 := (Below.refl w2.heap.size w2).alloc (Nat.le_refl _) (Obj.cells #[.string (S j), .int .u64 0, .int .u64 0, .pointer none, .int .u16 0, .int .u8 (St j), .int .u64 (G j), .int .u64 j, .string ByteArray.empty] 42)
      generalize w2.alloc (Obj.cells #[.string (S j), .int .u64 0, .int .u64 0, .pointer none, .int .u16 0, .int .u8 (St j), .int .u64 (G j), .int .u64 j, .string ByteArray.empty] 42) = w3 at *
      have q0 : w3.cell? ⟨w2.heap.size, 0, none⟩ = some (.string (S j)) := by rw [cell_of_row _ _ 0 _ _ _ hblk]; rfl
      have q5 : w3.cell? ⟨w2.heap.size, 5, none⟩ = some (.int .u8 (St j)) := by rw [cell_of_row _ _ 5 _ _ _ hblk]; rfl
      have q6 : w3.cell? ⟨w2.heap.size, 6, none⟩ = some (.int .u64 (G j)) := by rw [cell_of_row _ _ 6 _ _ _ hblk]; rfl
      have q7 : w3.cell? ⟨w2.heap.size, 7, none⟩ = some (.int .u64 j) := by rw [cell_of_row _ _ 7 _ _ _ hblk]; rfl
      have q8 : w3.cell? ⟨w2.heap.size, 8, none⟩ = some (.string ByteArray.empty) := by rw [cell_of_row _ _ 8 _ _ _ hblk]; rfl
      have hb03 : Below w.heap.size w w3 := hb02.trans (hb23.mono hb02.size)
      have hrow5 := rowIs_below HR4.out hb23 hsz2
      have hc3 : ∀ i, i < k → w3.cell? ⟨b, off + i * 3, none⟩ = some (.string (S i)) ∧ w3.cell? ⟨b, off + i * 3 + 1, none⟩ = some (.int .u64 (G i)) ∧ w3.cell? ⟨b, off + i * 3 + 2, none⟩ = some (.int .u8 (St i)) := fun i hi => by
        rw [hb03.cell (by exact hb), hb03.cell (by exact hb), hb03.cell (by exact hb)]; exact HC.out i hi
      have HC3 := Hid.mk' hc3
      have HR5 := Hid.mk' hrow5
      have hq2 : w2.heap.size < w3.heap.size := (Array.getElem?_eq_some_iff.1 hblk).1
      clear hc3 HC hrow5 HR4 hblk hb23 hb02
      go_loop [13, 14] (fun r i => ∃ q : Nat, q ≤ j ∧ i = .int .i64 q ∧ r = .int .i64 (-1)) (fun _ i => k - (intOf i).toNat)
      case atStart => exact ⟨0, Nat.zero_le _, rfl, rfl⟩
      case round =>
        obtain ⟨q, hqj, rfl, rfl⟩ := hrel
        have hqk : q < k := by omega
        obtain ⟨e0, _, _⟩ := HC3.out q hqk
        by_cases hlt2 : q < j
        · have htest := HMIN.out q hlt2
          clear q0 q5 q6 q7 q8
          go_wp2
          go_roundw
          case rel => exact ⟨q + 1, by omega, by go_num, rfl⟩
          case measure => simp [intOf]; omega
        · obtain rfl : q = j := by omega
          obtain ⟨_, e1, e2⟩ := HC3.out q hqk
          have i1 : (0 : Int) ≤ (q : Int) := by omega
          have i2 : (q : Int) < (k : Int) := by omega
          have i3 : IntKind.u64.wrap (q : Int) = (q : Int) := by rw [IntKind.wrap_u64]; omega
          go_wp2
          go_quiet (fail)
          go_wp2
          go_loopw [15] (fun i wr => ∃ p : Nat, p ≤ k ∧ i = .int .i64 p ∧ Below w3.heap.size w3 wr) (fun i _ => k - (intOf i).toNat)
          case atStart => exact ⟨0, Nat.zero_le _, rfl, below_drewN (Below.refl _ _) _⟩
          case round =>
            obtain ⟨p, hpk, rfl, hnx⟩ := hrel
            clear q0 q5 q6 q7 q8 e0 e1 e2
            by_cases hlt3 : p < k
            · obtain ⟨e0, e1, e2⟩ := HC3.out p hlt3
              rw [← hnx.cell (by exact Nat.lt_of_lt_of_le hb hb03.size)] at e0 e1 e2
              have hwl : w.heap.size < w3.heap.size := by omega
              have m0 := (hnx.cell (p := ⟨w.heap.size, p * 9, none⟩) hwl).trans (mcell_0 (HR5.out.cell (i := p * 9) (by omega)))
              have m6 := (hnx.cell (p := ⟨w.heap.size, p * 9 + 6, none⟩) hwl).trans (mcell_6 (HR5.out.cell (i := p * 9 + 6) (by omega)))
              have m7 := (hnx.cell (p := ⟨w.heap.size, p * 9 + 7, none⟩) hwl).trans (mcell_7 (HR5.out.cell (i := p * 9 + 7) (by omega)))
              have j1 : (0 : Int) ≤ (p : Int) := by omega
              have j2 : (p : Int) < (k : Int) := by omega
              have j3 : IntKind.u64.wrap (p : Int) = (p : Int) := by rw [IntKind.wrap_u64]; omega
              clear i1 i2 i3
              go_wp2
              go_quiet (fail)
              go_wp2
              go_roundw
              case rel => exact ⟨p + 1, by omega, by go_num, below_drewN hnx _⟩
              case measure => simp [intOf]; omega
            · go_wp2
              go_ret
              exact ⟨rfl, hb03.trans (hnx.mono hb03.size)⟩

end Go.Proofs.Ybulkdcvw
