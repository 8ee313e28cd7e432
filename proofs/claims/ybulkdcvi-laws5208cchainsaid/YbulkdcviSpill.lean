/-
  'LawS5208CModel' walked: the case in which eight bytes are appended (64 <= h + m).
-/
import Derived.Test.YbulkdcviModel
namespace Go.Proofs.Ybulkdcvi
open Go.RowKit Go.Deep Go.Proofs.Ybulkdcvi.Aid Go.Proofs.Ybulkdcvi.Plain

theorem put_spill' (B : Nat) (v : Value) (l : Nat) (xs : List Value) (a h x m : Nat) (w : World) (hB : B ≤ w.heap.size) (hl : l ≤ 900000) (hown : w.ownsRow B 5 1 v l xs) (hone : ∀ u ∈ xs, u.oneCell' = true)
    (hh : h < 64) (hm : 64 ≤ h + m) (hm2 : m ≤ 56) (ha : a < 2 ^ h) (hx : x < 2 ^ m) (T R n : Nat) (hT : a + x * 2 ^ h = T) (hR : T / 18446744073709551616 = R) (hn : h + m = n + 64) :
    Calls Yba.prog 6 #[v, .int .u64 a, .int .u64 h, .int .u64 x, .int .u64 m] w fun e w' => ∃ v', e = .returned (.tuple #[v', .int .u64 (R : Int), .int .u64 (n : Int)]) ∧
      Ext B 5 w w' v v' l xs 8 ((List.range 8).map fun j => .int .u8 ((byteAt T 64 j : Nat) : Int)) := by
  have h1 := put_spill B v l xs a h x m w hB hl hown hone hh hm hm2 ha hx
  have h2 := shift_high a x h (64 - h) ha
  rw [show h + (64 - h) = 64 from by omega, show (2 : Nat) ^ 64 = 18446744073709551616 from rfl, hT, hR] at h2
  rw [← h2, hT, show h + m - 64 = n from by omega] at h1
  exact h1

theorem or_u8 (A bb r : Nat) (hr : r < 8) (hA : A < 2 ^ r) (hb : bb < 2) : bits .or .u8 (A : Int) ((bb : Int) * 2 ^ r % 256) = ((A + bb * 2 ^ r : Nat) : Int) := by
  have h2 : 2 ^ r * 2 ≤ 256 := by
    rw [← Nat.pow_succ]
    exact Nat.pow_le_pow_right (by omega) (show r + 1 ≤ 8 by omega)
  have h4 : bb * 2 ^ r ≤ 2 ^ r := by
    have : bb * 2 ^ r ≤ 1 * 2 ^ r := Nat.mul_le_mul_right _ (by omega)
    omega
  have e : ((bb : Int) * 2 ^ r % 256) = ((bb * 2 ^ r : Nat) : Int) := by
    have e1 : ((bb : Int) * 2 ^ r) = ((bb * 2 ^ r : Nat) : Int) := by simp
    rw [e1]
    omega
  rw [e, u8_or_nat _ _ (by omega) (by omega), Nat.or_comm, nat_join r _ A (Nat.mul_mod_left _ _) hA, Nat.add_comm]

theorem want_step {w : World} {q T k A bb : Nat} (hrow : w.rowIs q 5 8 (fun j => .int .u8 ((byteAt T k j : Nat) : Int))) (hA : byteAt T k (k / 8) = A) (hb : T / 2 ^ k % 2 = bb) :
    (w.setCell ⟨q, k / 8, none⟩ (.int .u8 (bits .or .u8 (A : Int) ((bb : Int) * 2 ^ (k % 8) % 256)))).drew.rowIs q 5 8 (fun j => .int .u8 ((byteAt T (k + 1) j : Nat) : Int)) := by
  obtain ⟨h1, h2⟩ := byteAt_own T k
  rw [hA] at h1 h2
  rw [hb] at h2
  rw [or_u8 A bb (k % 8) (Nat.mod_lt _ (by omega)) h1 (by rw [← hb]; exact Nat.mod_lt _ (by omega)), ← h2]
  refine ((hrow.set (k / 8) _).drew).congr fun j _ => ?_
  by_cases hj : j = k / 8
  · rw [if_pos hj, hj]
  · rw [if_neg hj, byteAt_other T k j hj]

theorem high_bit (T R k : Nat) (h : T / 18446744073709551616 = R) : T / 2 ^ (64 + k) % 2 = R / 2 ^ k % 2 := by
  rw [Nat.pow_add, ← Nat.div_div_eq_div_mul, show (2 : Nat) ^ 64 = 18446744073709551616 from rfl, h]

theorem high_lt (T R M n : Nat) (hT : T < 2 ^ M) (hM : n + 64 = M) (h : T / 18446744073709551616 = R) : R < 2 ^ n := by
  rw [← h, Nat.div_lt_iff_lt_mul (by omega), show (18446744073709551616 : Nat) = 2 ^ 64 from rfl, ← Nat.pow_add, hM]
  exact hT

set_option maxRecDepth 100000 in
set_option maxHeartbeats 1000000 in
theorem model_spill (a0 : Option Addr) (len cap S AC HE V N : Nat) (Z : Nat → Int) (w : World) (hlen : len ≤ 1024) (hS : S < 256) (hHE : HE < 18446744073709551616) (hN : N < 18446744073709551616)
    (HD : IsDst w a0 len Z) (h m a x sp : Nat) (hh : h < 64) (hm : m ≤ 56) (ha : a < 2 ^ h) (hx : x < 2 ^ m) (hsp : sp < 16) (hs16 : (S : Int) % 16 = (sp : Int)) (hh64 : (HE : Int) % 64 = (h : Int)) (hm57 : (N : Int) % 57 = (m : Int))
    (hm1 : bits .and .u64 (AC : Int) (IntKind.u64.wrap (IntKind.u64.wrap (2 ^ h) - 1)) = (a : Int)) (hm2 : bits .and .u64 (V : Int) (IntKind.u64.wrap (IntKind.u64.wrap (2 ^ m) - 1)) = (x : Int))
    (hsp64 : 64 ≤ h + m) :
    Calls Yba.prog 3 #[.slice a0 len cap, .int .u8 S, .int .u64 AC, .int .u64 HE, .int .u64 V, .int .u64 N] w fun e w' => e = .returned (.bool true) ∧ Below w.heap.size w w' := by
  obtain ⟨i0, hi, hz0, hz1, hz2⟩ := info_parts Yba.info5
  have ht : ((len : Int) + (sp : Int)).toNat = len + sp := by omega
  have hmk := fun w : World => run_make (P := Yba.prog) w 22 5 i0 _ Yba.underlying22 hi hz0 .i64 .i64 (len : Int) ((len : Int) + (sp : Int)) (by omega) (by omega) (by rw [hz2]; omega) (by omega)
  simp only [hz1, ht, Nat.mul_one, Int.toNat_natCast] at hmk
  clear ht
  have ha64 : a < 18446744073709551616 := Nat.lt_of_lt_of_le ha (Nat.le_trans (Nat.pow_le_pow_right (by omega) (show h ≤ 64 by omega)) (by decide))
  have hx64 : x < 18446744073709551616 := Nat.lt_of_lt_of_le hx (Nat.le_trans (Nat.pow_le_pow_right (by omega) (show m ≤ 64 by omega)) (by decide))
  have hT := lt_join a x h m ha hx
  have hmo := made_len (base := w.heap.size) (e := 5) w (madeCells #[.int .u8 0] (len + sp)) len (len + sp) (Nat.le_refl _) (by omega) (by unfold maxLen; omega) (by simp [size_madeCells])
  have HA := Hid.mk' ha
  have HX := Hid.mk' hx
  have HT := Hid.mk' hT
  clear ha hx hT
  go_enter Yba.func3, Yba.ntmps3
  go_wp2_with (refine wpList_copy_one rfl (.tmp 55) (.tmp 56) 22 22 rfl w.heap.size 5 5 w.heap.size len (len + sp) a0 cap _ ((List.range len).map fun j => .int .u8 (Z j)) rfl rfl Yba.underlying22 (by simp [hi, hz1]) hmo (by simp) ?c1 ?c2 ?_)
  case c1 => exact dst_src HD
  case c2 => exact dst_one Z len
  intro w1 hd1 hgr1
  have hb01 : Below w.heap.size w w1 := Below.grown ((Below.refl _ _).alloc (Nat.le_refl _) _) hgr1 (by simp) (fun k hk => by simp at hk; omega)
  clear hgr1 hmo hmk
  go_wp2_with fail
  refine (bits_any w1.heap.size (.slice none 0 0) 0 [] a h w1 (Nat.le_refl _) ha64 (by omega) (by omega) (World.ownsRow_nil _ _ _ _)).mono ?_
  rintro e w2 ⟨v1, rfl, hx1⟩
  have hb12 : Below w1.heap.size w1 w2 := Below.grown (Below.refl _ _) hx1.grown (Nat.le_refl _) (fun k hk => by simp [Value.ownBlock] at hk)
  have ho1 : w2.ownsRow w1.heap.size 5 1 v1 h (bitCells a h) := by simpa using hx1.own
  clear hx1
  go_wp2_with fail
  refine (bits_any w1.heap.size v1 h (bitCells a h) x m w2 hb12.size hx64 (by omega) (by omega) ho1).mono ?_
  rintro e w3 ⟨v2, rfl, hx2⟩
  have hb13 : Below w1.heap.size w1 w3 := Below.grown hb12 hx2.grown hb12.size (fun k hk => (ho1.lt k hk).1)
  have ho2 := hx2.own
  rw [bitCells_append a x h m HA.out] at ho2
  clear hx2 ho1 hb12
  have hd3 := ownsRow_below hd1 hb13
  have hb03 := hb01.trans (hb13.mono hb01.size)
  obtain ⟨T, hT⟩ : ∃ T, a + x * 2 ^ h = T := ⟨_, rfl⟩
  obtain ⟨n, hn⟩ : ∃ n, h + m = n + 64 := ⟨h + m - 64, by omega⟩
  obtain ⟨R, hR⟩ : ∃ R, T / 18446744073709551616 = R := ⟨_, rfl⟩
  have hput := put_spill' w.heap.size (.slice (some ⟨w.heap.size, 0, none⟩) len (len + sp)) len _ a h x m w3 hb03.size (by omega) hd3 (dst_one Z len) hh hsp64 hm HA.out HX.out T R n hT hR hn
  have HT2 := HT.out
  rw [hT, hn] at ho2 HT2
  have hn64 : n < 64 := by omega
  have HRe := Hid.mk' hR
  have HP := Hid.mk' hput
  have HT3 := Hid.mk' HT2
  have hdg : w.heap.size < w1.heap.size := (hd1.lt _ rfl).2
  clear hT hn hR hput HT2 HT hb01 hd1
  go_wp2_with fail
  refine HP.out.mono ?_
  rintro e w4 ⟨v', rfl, hext⟩
  have ho4 := ownsRow_of_block ho2 (fun k hk => hext.grown.block k (ho2.lt k hk).2 (fun e => by simp [Value.ownBlock] at e; have := (ho2.lt k hk).1; omega))
  have hb04 : Below w.heap.size w w4 := Below.grown hb03 hext.grown hb03.size (fun k hk => by simp [Value.ownBlock] at hk; omega)
  have hold := hext.old
  have hnew := hext.own
  clear hext hb03 hb13 ho2 hd3 HP
  obtain ⟨bo, bc, rfl, hbn, hbm, hbo⟩ := own_shape ho4
  obtain ⟨vo, vc, rfl, hvn, hvm, hvo⟩ := own_shape hnew
  obtain ⟨gb, rfl, hgb, hcb⟩ := hbo (by omega)
  obtain ⟨gv, rfl, hgv, hcv⟩ := hvo (by omega)
  have HB := Hid.mk' hcb
  have HV := Hid.mk' hcv
  unfold maxLen at hbm hvm
  clear hbo hvo hcb hcv ho4 hnew
  generalize hM : n + 64 = M at *
  have hM2 : 64 ≤ M := by omega
  have hM3 : M < 128 := by omega
  generalize hL8 : len + 8 = L8 at *
  have hL9 : L8 ≤ 2000 := by omega
  have HM := Hid.mk' hM
  have HL8 := Hid.mk' hL8
  clear hM hL8
  have hmk8 := fun w : World => run_make (P := Yba.prog) w 22 5 i0 _ Yba.underlying22 hi hz0 .i64 .i64 8 8 (by omega) (by omega) (by rw [hz2]; omega) (by omega)
  simp only [hz1] at hmk8
  go_wp2
  go_loopw [24] (fun i wr => ∃ k : Nat, k ≤ 64 ∧ i = .int .i64 k ∧ wr.rowIs w4.heap.size 5 8 (fun j => .int .u8 ((byteAt T k j : Nat) : Int)) ∧ Below w4.heap.size w4 wr) (fun i _ => 64 - (intOf i).toNat)
  case atStart =>
    refine ⟨0, Nat.zero_le _, rfl, (World.rowIs_made w4 (.int .u8 0) 8 5).congr (fun i _ => by rw [byteAt_zero]; rfl), (Below.refl _ _).alloc (Nat.le_refl _) _⟩
  case round =>
    obtain ⟨k, hk64, rfl, hrow, hnx⟩ := hrel
    by_cases hlt : k < 64
    · have c0 := (hnx.cell (p := ⟨gb, k, none⟩) hgb).trans (HB.out k (by omega))
      rw [bitCells_at T _ k (by omega)] at c0
      have c1 := hrow.cell (i := k / 8) (by omega)
      have f1 := hrow.frozen (k / 8)
      have hbb : T / 2 ^ k % 2 < 2 := Nat.mod_lt _ (by omega)
      obtain ⟨bb, hb⟩ : ∃ bb, T / 2 ^ k % 2 = bb := ⟨_, rfl⟩
      have hlt1 := byteAt_lt T k (k / 8)
      obtain ⟨A, hA⟩ : ∃ A, byteAt T k (k / 8) = A := ⟨_, rfl⟩
      rw [hA] at c1 hlt1
      rw [hb] at c0 hbb
      have H1 := Hid.mk' hb
      have H2 := Hid.mk' hA
      clear hb hA HB HV hold
      have H3 := Hid.mk' (want_step hrow H2.out H1.out)
      clear hrow
      go_wp2
      go_region
      all_goals go_wp2
      go_roundw
      case rel => exact ⟨k + 1, by omega, by go_num, H3.out, (hnx.setCell (Nat.le_refl _) _).drew⟩
      case measure => simp [intOf]; omega
    · obtain rfl : k = 64 := by omega
      have hb05 := hb04.trans (hnx.mono hb04.size)
      have hB5 : ∀ j, j < M → wr.cell? ⟨gb, j, none⟩ = (bitCells T M)[j]? := fun j hj => (hnx.cell (by exact hgb)).trans (HB.out j hj)
      have hV5 : ∀ j, j < L8 → wr.cell? ⟨gv, j, none⟩ = _ := fun j hj => (hnx.cell (by exact hgv)).trans (HV.out j hj)
      have hold5 := ownsRow_below hold hnx
      have hgb5 := Nat.lt_of_lt_of_le hgb hnx.size
      have hgv5 := Nat.lt_of_lt_of_le hgv hnx.size
      have hq5 : w4.heap.size < wr.heap.size := hrow.lt
      clear HB HV hold hnx hgb hgv hb04 hmk8
      have HB := Hid.mk' hB5
      have HV := Hid.mk' hV5
      have HO := Hid.mk' hold5
      have HR := Hid.mk' hrow
      clear hB5 hV5 hold5 hrow
      obtain ⟨ro, hro, hro2⟩ : ∃ ro, (if bc = 64 then some (⟨gb, 0, none⟩ : Addr) else some ⟨gb, 64, none⟩) = ro ∧ (64 < bc → ro = some ⟨gb, 64, none⟩) := ⟨_, rfl, fun h => if_neg (by omega)⟩
      have HRO := Hid.mk' hro2
      clear hro2
      have hMn : M - 64 = n := by have := HM.out; omega
      obtain ⟨w5, rfl⟩ : ∃ w5 : World, w5 = wr := ⟨_, rfl⟩
      go_wp2
      clear hro
      go_loop [25, 26] (fun acc i => ∃ k : Nat, k ≤ n ∧ i = .int .i64 k ∧ acc = .int .u64 ((R % 2 ^ k : Nat) : Int)) (fun _ i => n - (intOf i).toNat)
      case atStart => exact ⟨0, Nat.zero_le _, rfl, by simp [Nat.mod_one]⟩
      case round =>
        obtain ⟨k, hkn, rfl, rfl⟩ := hrel
        by_cases hlt2 : k < n
        · obtain rfl := HRO.out (by omega)
          have c0 := HB.out (64 + k) (by omega)
          rw [bitCells_at T M _ (by omega), high_bit T R k HRe.out] at c0
          clear HB HV HO HR HRO hlt
          have hbb : R / 2 ^ k % 2 < 2 := Nat.mod_lt _ (by omega)
          have hA := or_step R k (by omega)
          obtain ⟨bb, hb⟩ : ∃ bb, R / 2 ^ k % 2 = bb := ⟨_, rfl⟩
          obtain ⟨A, hAe⟩ : ∃ A, R % 2 ^ k = A := ⟨_, rfl⟩
          obtain ⟨A', hAe'⟩ : ∃ A, R % 2 ^ (k + 1) = A := ⟨_, rfl⟩
          rw [hb] at c0 hbb hA
          rw [hAe, hAe'] at hA
          rw [hAe]
          have HE' := Hid.mk' hAe'
          clear hb hAe hAe'
          go_wp2
          go_roundw
          case rel => exact ⟨k + 1, by omega, by go_num, by rw [HE'.out]⟩
          case measure => simp [intOf]; omega
        · obtain rfl : k = n := by omega
          rw [Nat.mod_eq_of_lt (high_lt T R M k HT3.out HM.out HRe.out)]
          have hL1 : ((L8 : Int) == (len : Int) + 8) = true := by have := HL8.out; simp; omega
          clear HRO
          go_wp2
          go_loopw [27] (fun i wr => ∃ j : Nat, j ≤ len ∧ i = .int .i64 j ∧ Below w5.heap.size w5 wr) (fun i _ => len - (intOf i).toNat)
          case atStart => exact ⟨0, Nat.zero_le _, rfl, Below.refl _ _⟩
          case round =>
            obtain ⟨j, hjl, rfl, hnx⟩ := hrel
            by_cases hlt3 : j < len
            · obtain ⟨b, off, rfl, hbw, hcb⟩ := HD (by omega)
              have c0 := ((hnx.cell (p := ⟨b, off + j, none⟩) (Nat.lt_of_lt_of_le hbw hb05.size)).trans (hb05.cell (by exact hbw))).trans (hcb j hlt3)
              have c1 := (hnx.cell (p := ⟨w.heap.size, j, none⟩) (HO.out.lt _ rfl).2).trans (HO.out.cellAt j (by omega))
              have c2 := (hnx.cell (p := ⟨gv, j, none⟩) hgv5).trans (HV.out j (by have := HL8.out; omega))
              rw [List.getElem?_append_left (by simpa using hlt3)] at c2
              rw [dst_at Z hlt3] at c1 c2
              have hjL : (j : Int) < (L8 : Int) := by have := HL8.out; omega
              clear hcb HD HO HV HR HB hb05 hlt hlt2
              have i1 : (0 : Int) ≤ (j : Int) := by omega
              have i2 : (j : Int) < (len : Int) := by omega
              go_wp2
              go_quiet (fail)
              go_wp2
              go_roundw
              case rel => exact ⟨j + 1, by omega, by go_num, below_drewN hnx _⟩
              case measure => simp [intOf]; omega
            · obtain rfl : j = len := by omega
              have hb06 := hb05.trans (hnx.mono hb05.size)
              have hV6 : ∀ q, q < 8 → wr.cell? ⟨gv, j + q, none⟩ = some (.int .u8 ((byteAt T 64 q : Nat) : Int)) := fun q hq => by
                rw [hnx.cell (by exact hgv5), HV.out (j + q) (by have := HL8.out; omega), List.getElem?_append_right (by simp)]
                simp [hq]
              have hR6 := HR.out.of_block (hnx.block _ hq5)
              have hq6 := Nat.lt_of_lt_of_le hq5 hnx.size
              have hgv6 := Nat.lt_of_lt_of_le hgv5 hnx.size
              have HV6 := Hid.mk' hV6
              have HR6 := Hid.mk' hR6
              have hL10 : ∀ q : Nat, q < 8 → (j : Int) + (q : Int) < (L8 : Int) := fun q hq => by have := HL8.out; omega
              have HL10 := Hid.mk' hL10
              clear HV HR HO HB hnx hV6 hR6 hb05 hL10 hlt hlt2 hlt3 HD
              obtain ⟨w6, rfl⟩ : ∃ w6 : World, w6 = wr := ⟨_, rfl⟩
              go_wp2
              go_loopw [28] (fun i wr => ∃ q : Nat, q ≤ 8 ∧ i = .int .i64 q ∧ Below w6.heap.size w6 wr) (fun i _ => 8 - (intOf i).toNat)
              case atStart => exact ⟨0, Nat.zero_le _, rfl, Below.refl _ _⟩
              case round =>
                obtain ⟨q, hq8, rfl, hnx2⟩ := hrel
                by_cases hlt4 : q < 8
                · have c0 := (hnx2.cell (p := ⟨gv, j + q, none⟩) hgv6).trans (HV6.out q hlt4)
                  have c1 := (hnx2.cell (p := ⟨w4.heap.size, q, none⟩) hq6).trans (HR6.out.cell hlt4)
                  have i3 := HL10.out q hlt4
                  have i1 : (0 : Int) ≤ (j : Int) + (q : Int) := by omega
                  have i2 : (q : Int) < 8 := by omega
                  have i4 : (0 : Int) ≤ (q : Int) := by omega
                  clear HV6 HR6 HL10
                  go_wp2
                  go_quiet (fail)
                  go_wp2
                  go_roundw
                  case rel => exact ⟨q + 1, by omega, by go_num, below_drewN hnx2 _⟩
                  case measure => simp [intOf]; omega
                · go_wp2
                  go_ret
                  exact ⟨rfl, hb06.trans (hnx2.mono hb06.size)⟩

end Go.Proofs.Ybulkdcvi
