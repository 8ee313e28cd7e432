/-
  'LawS5208CChain' walked: the law itself.
-/
import Derived.Test.YbulkdcviChain
namespace Go.Proofs.Ybulkdcvi
open Go.RowKit Go.Deep Go.Proofs.Ybulkdcvi.Aid Go.Proofs.Ybulkdcvi.Plain

theorem mask_get (X m : Nat) (hm : m ≤ 56) (hX : X < 18446744073709551616) : ∃ x : Nat, x < 2 ^ m ∧ bits .and .u64 (X : Int) (IntKind.u64.wrap (IntKind.u64.wrap (2 ^ m) - 1)) = (x : Int) :=
  ⟨X % 2 ^ m, Nat.mod_lt _ (Nat.two_pow_pos _), mask_u64 X m (by omega) hX⟩

theorem bit_u8 (T j : Nat) : bits .and .u8 (((T / 2 ^ (8 * (j / 8)) % 256 : Nat) : Int) / 2 ^ (j % 8)) 1 = ((T / 2 ^ j % 2 : Nat) : Int) := by
  rw [← bit_of_byte T j]
  have hlt : T / 2 ^ (8 * (j / 8)) % 256 < 256 := Nat.mod_lt _ (by omega)
  generalize T / 2 ^ (8 * (j / 8)) % 256 = Y at *
  have e : ((Y : Int) / 2 ^ (j % 8)) = ((Y / 2 ^ (j % 8) : Nat) : Int) := by simp
  have hl2 : Y / 2 ^ (j % 8) < 256 := Nat.lt_of_le_of_lt (Nat.div_le_self _ _) hlt
  have h := u8_and_nat (Y / 2 ^ (j % 8)) 1 hl2 (by omega)
  have h1 : ((1 : Nat) : Int) = 1 := rfl
  rw [h1] at h
  rw [e, h, nat_mask1]

theorem held_bit (T a q N0 k : Nat) (h3 : a = T / 2 ^ (64 * q)) (h5 : q * 64 = N0) : T / 2 ^ (N0 + k) % 2 = a / 2 ^ k % 2 := by
  rw [h3, Nat.div_div_eq_div_mul, ← Nat.pow_add, ← h5, Nat.mul_comm q 64]

set_option maxRecDepth 100000 in
set_option maxHeartbeats 2000000 in
theorem chain_less (a0 a1 : Option Addr) (len0 cap0 len1 cap1 : Nat) (X W : Nat → Nat) (w : World) (hK : len1 ≤ 1024) (hX : ∀ j, X j < 18446744073709551616) (hW : ∀ j, W j < 256)
    (hl0 : len0 ≤ maxLen) (hc : len1 < len0) (HD0 : IsNums .u64 w a0 len0 X) (HD1 : IsNums .u8 w a1 len1 W) :
    Calls Yba.prog 4 #[.slice a0 len0 cap0, .slice a1 len1 cap1] w fun e w' => e = .returned (.bool true) ∧ Below w.heap.size w w' := by
  have HX := Hid.mk' hX
  have HW := Hid.mk' hW
  unfold maxLen at hl0
  clear hX hW
  have hstart : Str w.heap.size w w (.slice none 0 0) (.slice none 0 0) 0 0 0 :=
    ⟨0, 0, 0, ⟨by omega, by omega, by simp, by simp⟩, by omega, World.ownsRow_nil _ _ _ _, World.ownsRow_nil _ _ _ _, fun q h => by simp [Value.ownBlock] at h, Nat.le_refl _, Below.refl _ _⟩
  go_enter Yba.func4, Yba.ntmps4
  go_wp2
  go_loopw [6, 7, 8, 9, 10] (fun vo acc he vb i wr => ∃ k a h : Nat, k ≤ len1 ∧ i = .int .i64 k ∧ acc = .int .u64 a ∧ he = .int .u64 h ∧ Str w.heap.size w wr vo vb k a h) (fun _ _ _ _ i _ => len1 - (intOf i).toNat)
  case atStart => exact ⟨0, 0, 0, Nat.zero_le _, rfl, rfl, rfl, hstart⟩
  case round =>
    obtain ⟨k, a, h, hkK, rfl, rfl, rfl, hstr⟩ := hrel
    by_cases hlt : k < len1
    · obtain ⟨b0, o0, rfl, hb0, hc0⟩ := HD0 (by omega)
      obtain ⟨b1, o1, rfl, hb1, hc1⟩ := HD1 (by omega)
      have hbel : Below w.heap.size w wr := by obtain ⟨_, _, _, _, _, _, _, _, _, h⟩ := hstr; exact h
      have c0 := (hbel.cell (p := ⟨b0, o0 + k, none⟩) hb0).trans (hc0 k (by omega))
      have c1 := (hbel.cell (p := ⟨b1, o1 + k, none⟩) hb1).trans (hc1 k (by omega))
      have hWk := HW.out k
      have hXk := HX.out k
      obtain ⟨m, hm⟩ : ∃ m, W k % 57 = m := ⟨_, rfl⟩
      have hm57 : (W k : Int) % 57 = (m : Int) := by omega
      have hm56 : m ≤ 56 := by omega
      obtain ⟨x, hx, hmask⟩ := mask_get (X k) m hm56 hXk
      have HS := Hid.mk' hstr
      have HXX := Hid.mk' hx
      clear hm hc0 hc1 HD0 HD1 hstart hstr hx hbel
      go_wp2_with fail
      refine (put_str HS.out (by omega) hm56 HXX.out).mono ?_
      rintro e w1 ⟨vo', a', h', rfl, T, L, q, hT, hL, hh, ho, hb, hap, hB, hbel⟩
      have hbs := bits_str hT hL (by omega) hm56 HXX.out hh ho hb hap hB hbel
      have HBS := Hid.mk' hbs
      clear hT hL hh ho hb hap hB hbel hbs HS HXX
      go_wp2_with fail
      refine HBS.out.mono ?_
      rintro e w2 ⟨vb', rfl, hstr2⟩
      clear HBS
      have HS2 := Hid.mk' hstr2
      clear hstr2
      go_wp2
      go_roundw
      case rel => exact ⟨k + 1, a', h', by omega, by go_num, rfl, rfl, HS2.out⟩
      case measure => simp [intOf]; omega
    · obtain ⟨T, L, q, hh, hL, ho, hb, _, hB, hbel⟩ := hstr
      obtain ⟨bo, bc, rfl, hbn, hbm, hbo⟩ := own_shape hb
      obtain ⟨oo, oc, rfl, hon, hom, hoo⟩ := own_shape ho
      generalize hQ : 8 * q = Q8 at *
      obtain ⟨e1, e2, e3, e4⟩ := hh
      obtain ⟨N0, hN0⟩ : ∃ N0, q * 64 = N0 := ⟨_, rfl⟩
      have hLq : (L : Int) / 64 = (q : Int) := by omega
      have hq64 : (q : Int) * 64 = (N0 : Int) := by omega
      have hQb : ((Q8 : Int) == (N0 : Int) / 8) = true := by simp; omega
      have hLN : (L : Int) - (N0 : Int) = (h : Int) := by omega
      have hN1 : N0 ≤ L := by omega
      have hN2 : N0 / 8 ≤ Q8 := by omega
      have H5 := Hid.mk' hN0
      clear hN0
      have hq1 : q ≤ 1000 := by omega
      have hL2 : L ≤ 57344 := by omega
      have H1 := Hid.mk' e1
      have H3 := Hid.mk' e3
      have H4 := Hid.mk' e4
      have HQ := Hid.mk' hQ
      have HBO := Hid.mk' hbo
      have HOO := Hid.mk' hoo
      clear e1 e3 e4 hQ hbo hoo ho hb hL hstart
      unfold maxLen at hbm hom
      obtain ⟨w3, rfl⟩ : ∃ w3 : World, w3 = wr := ⟨_, rfl⟩
      go_wp2
      go_loopw [14] (fun i wr => ∃ j : Nat, j ≤ N0 ∧ i = .int .i64 j ∧ Below w3.heap.size w3 wr) (fun i _ => N0 - (intOf i).toNat)
      case atStart => exact ⟨0, Nat.zero_le _, rfl, Below.refl _ _⟩
      case round =>
        obtain ⟨j, hjq, rfl, hnx⟩ := hrel
        by_cases hlt2 : j < N0
        · have hj8 : j / 8 < Q8 := by have := HQ.out; have := H5.out; omega
          have hjL : j < L := by omega
          obtain ⟨gb, rfl, hgb, hcb⟩ := HBO.out (by omega)
          obtain ⟨go, rfl, hgo, hco⟩ := HOO.out (by omega)
          have c0 := (hnx.cell (p := ⟨gb, j, none⟩) hgb).trans (hcb j hjL)
          have c1 := (hnx.cell (p := ⟨go, j / 8, none⟩) hgo).trans (hco (j / 8) hj8)
          rw [bitCells_at T L j hjL] at c0
          rw [outCells_at T q (j / 8) (by have := HQ.out; omega)] at c1
          have hbit := bit_u8 T j
          have hlt8 : T / 2 ^ (8 * (j / 8)) % 256 < 256 := Nat.mod_lt _ (by omega)
          generalize T / 2 ^ (8 * (j / 8)) % 256 = B8 at c1 hbit hlt8
          generalize T / 2 ^ j % 2 = bb at c0 hbit
          clear hcb hco HBO HOO
          have i1 : (0 : Int) ≤ (j : Int) := by omega
          have i2 : (j : Int) < (L : Int) := by omega
          have i3 : (j : Int) / 8 < (Q8 : Int) := by omega
          have i4 : (j : Int) < (N0 : Int) := by omega
          go_wp2
          go_quiet (fail)
          go_wp2
          go_roundw
          case rel => exact ⟨j + 1, by omega, by go_num, below_drewN hnx _⟩
          case measure => simp [intOf]; omega
        · have hfin := hbel.trans (hnx.mono hB)
          obtain ⟨w4, rfl⟩ : ∃ w4 : World, w4 = wr := ⟨_, rfl⟩
          have hHN : L = N0 + h := by omega
          have HHN := Hid.mk' hHN
          clear hHN
          go_wp2
          go_loop [15, 16] (fun acc i => ∃ k : Nat, k ≤ h ∧ i = .int .i64 ((N0 : Int) + (k : Int)) ∧ acc = .int .u64 ((a % 2 ^ k : Nat) : Int)) (fun _ i => L - (intOf i).toNat)
          case atStart => exact ⟨0, Nat.zero_le _, by simp, by simp [Nat.mod_one]⟩
          case round =>
            obtain ⟨k2, hk2, rfl, rfl⟩ := hrel
            by_cases hlt3 : k2 < h
            · have hkL : N0 + k2 < L := by have := HHN.out; omega
              obtain ⟨gb, rfl, hgb, hcb⟩ := HBO.out (by omega)
              have c0 := (hnx.cell (p := ⟨gb, N0 + k2, none⟩) hgb).trans (hcb (N0 + k2) hkL)
              rw [bitCells_at T L _ hkL, held_bit T a q N0 k2 H3.out H5.out] at c0
              clear hcb HBO HOO
              have hbb : a / 2 ^ k2 % 2 < 2 := Nat.mod_lt _ (by omega)
              have hA := or_step a k2 (by omega)
              obtain ⟨bb, hb⟩ : ∃ bb, a / 2 ^ k2 % 2 = bb := ⟨_, rfl⟩
              obtain ⟨A, hAe⟩ : ∃ A, a % 2 ^ k2 = A := ⟨_, rfl⟩
              obtain ⟨A', hAe'⟩ : ∃ A, a % 2 ^ (k2 + 1) = A := ⟨_, rfl⟩
              rw [hb] at c0 hbb hA
              rw [hAe, hAe'] at hA
              rw [hAe]
              have HE' := Hid.mk' hAe'
              have ht : ((N0 : Int) + (k2 : Int)).toNat = N0 + k2 := by omega
              have hs1 : (N0 : Int) + (k2 : Int) - (N0 : Int) = (k2 : Int) := by omega
              clear hb hAe hAe'
              go_wp2
              go_roundw
              case rel => exact ⟨k2 + 1, by omega, by go_num, by rw [HE'.out]⟩
              case measure => simp [intOf]; omega
            · obtain rfl : k2 = h := by omega
              have hhl : ¬ (N0 + k2 < L) := by have := HHN.out; omega
              rw [Nat.mod_eq_of_lt (Held.lt ⟨H1.out, e2, H3.out, H4.out⟩)]
              go_wp2
              go_ret
              exact ⟨by simp, hfin⟩

set_option maxRecDepth 100000 in
set_option maxHeartbeats 2000000 in
theorem chain_more (a0 a1 : Option Addr) (len0 cap0 len1 cap1 : Nat) (X W : Nat → Nat) (w : World) (hK : len0 ≤ 1024) (hX : ∀ j, X j < 18446744073709551616) (hW : ∀ j, W j < 256)
    (hl1 : len1 ≤ maxLen) (hc : ¬ len1 < len0) (HD0 : IsNums .u64 w a0 len0 X) (HD1 : IsNums .u8 w a1 len1 W) :
    Calls Yba.prog 4 #[.slice a0 len0 cap0, .slice a1 len1 cap1] w fun e w' => e = .returned (.bool true) ∧ Below w.heap.size w w' := by
  have HX := Hid.mk' hX
  have HW := Hid.mk' hW
  unfold maxLen at hl1
  clear hX hW
  have hstart : Str w.heap.size w w (.slice none 0 0) (.slice none 0 0) 0 0 0 :=
    ⟨0, 0, 0, ⟨by omega, by omega, by simp, by simp⟩, by omega, World.ownsRow_nil _ _ _ _, World.ownsRow_nil _ _ _ _, fun q h => by simp [Value.ownBlock] at h, Nat.le_refl _, Below.refl _ _⟩
  go_enter Yba.func4, Yba.ntmps4
  go_wp2
  go_loopw [6, 7, 8, 9, 10] (fun vo acc he vb i wr => ∃ k a h : Nat, k ≤ len0 ∧ i = .int .i64 k ∧ acc = .int .u64 a ∧ he = .int .u64 h ∧ Str w.heap.size w wr vo vb k a h) (fun _ _ _ _ i _ => len0 - (intOf i).toNat)
  case atStart => exact ⟨0, 0, 0, Nat.zero_le _, rfl, rfl, rfl, hstart⟩
  case round =>
    obtain ⟨k, a, h, hkK, rfl, rfl, rfl, hstr⟩ := hrel
    by_cases hlt : k < len0
    · obtain ⟨b0, o0, rfl, hb0, hc0⟩ := HD0 (by omega)
      obtain ⟨b1, o1, rfl, hb1, hc1⟩ := HD1 (by omega)
      have hbel : Below w.heap.size w wr := by obtain ⟨_, _, _, _, _, _, _, _, _, h⟩ := hstr; exact h
      have c0 := (hbel.cell (p := ⟨b0, o0 + k, none⟩) hb0).trans (hc0 k (by omega))
      have c1 := (hbel.cell (p := ⟨b1, o1 + k, none⟩) hb1).trans (hc1 k (by omega))
      have hWk := HW.out k
      have hXk := HX.out k
      obtain ⟨m, hm⟩ : ∃ m, W k % 57 = m := ⟨_, rfl⟩
      have hm57 : (W k : Int) % 57 = (m : Int) := by omega
      have hm56 : m ≤ 56 := by omega
      obtain ⟨x, hx, hmask⟩ := mask_get (X k) m hm56 hXk
      have HS := Hid.mk' hstr
      have HXX := Hid.mk' hx
      clear hm hc0 hc1 HD0 HD1 hstart hstr hx hbel
      go_wp2_with fail
      refine (put_str HS.out (by omega) hm56 HXX.out).mono ?_
      rintro e w1 ⟨vo', a', h', rfl, T, L, q, hT, hL, hh, ho, hb, hap, hB, hbel⟩
      have hbs := bits_str hT hL (by omega) hm56 HXX.out hh ho hb hap hB hbel
      have HBS := Hid.mk' hbs
      clear hT hL hh ho hb hap hB hbel hbs HS HXX
      go_wp2_with fail
      refine HBS.out.mono ?_
      rintro e w2 ⟨vb', rfl, hstr2⟩
      clear HBS
      have HS2 := Hid.mk' hstr2
      clear hstr2
      go_wp2
      go_roundw
      case rel => exact ⟨k + 1, a', h', by omega, by go_num, rfl, rfl, HS2.out⟩
      case measure => simp [intOf]; omega
    · obtain ⟨T, L, q, hh, hL, ho, hb, _, hB, hbel⟩ := hstr
      obtain ⟨bo, bc, rfl, hbn, hbm, hbo⟩ := own_shape hb
      obtain ⟨oo, oc, rfl, hon, hom, hoo⟩ := own_shape ho
      generalize hQ : 8 * q = Q8 at *
      obtain ⟨e1, e2, e3, e4⟩ := hh
      obtain ⟨N0, hN0⟩ : ∃ N0, q * 64 = N0 := ⟨_, rfl⟩
      have hLq : (L : Int) / 64 = (q : Int) := by omega
      have hq64 : (q : Int) * 64 = (N0 : Int) := by omega
      have hQb : ((Q8 : Int) == (N0 : Int) / 8) = true := by simp; omega
      have hLN : (L : Int) - (N0 : Int) = (h : Int) := by omega
      have hN1 : N0 ≤ L := by omega
      have hN2 : N0 / 8 ≤ Q8 := by omega
      have H5 := Hid.mk' hN0
      clear hN0
      have hq1 : q ≤ 1000 := by omega
      have hL2 : L ≤ 57344 := by omega
      have H1 := Hid.mk' e1
      have H3 := Hid.mk' e3
      have H4 := Hid.mk' e4
      have HQ := Hid.mk' hQ
      have HBO := Hid.mk' hbo
      have HOO := Hid.mk' hoo
      clear e1 e3 e4 hQ hbo hoo ho hb hL hstart
      unfold maxLen at hbm hom
      obtain ⟨w3, rfl⟩ : ∃ w3 : World, w3 = wr := ⟨_, rfl⟩
      go_wp2
      go_loopw [14] (fun i wr => ∃ j : Nat, j ≤ N0 ∧ i = .int .i64 j ∧ Below w3.heap.size w3 wr) (fun i _ => N0 - (intOf i).toNat)
      case atStart => exact ⟨0, Nat.zero_le _, rfl, Below.refl _ _⟩
      case round =>
        obtain ⟨j, hjq, rfl, hnx⟩ := hrel
        by_cases hlt2 : j < N0
        · have hj8 : j / 8 < Q8 := by have := HQ.out; have := H5.out; omega
          have hjL : j < L := by omega
          obtain ⟨gb, rfl, hgb, hcb⟩ := HBO.out (by omega)
          obtain ⟨go, rfl, hgo, hco⟩ := HOO.out (by omega)
          have c0 := (hnx.cell (p := ⟨gb, j, none⟩) hgb).trans (hcb j hjL)
          have c1 := (hnx.cell (p := ⟨go, j / 8, none⟩) hgo).trans (hco (j / 8) hj8)
          rw [bitCells_at T L j hjL] at c0
          rw [outCells_at T q (j / 8) (by have := HQ.out; omega)] at c1
          have hbit := bit_u8 T j
          have hlt8 : T / 2 ^ (8 * (j / 8)) % 256 < 256 := Nat.mod_lt _ (by omega)
          generalize T / 2 ^ (8 * (j / 8)) % 256 = B8 at c1 hbit hlt8
          generalize T / 2 ^ j % 2 = bb at c0 hbit
          clear hcb hco HBO HOO
          have i1 : (0 : Int) ≤ (j : Int) := by omega
          have i2 : (j : Int) < (L : Int) := by omega
          have i3 : (j : Int) / 8 < (Q8 : Int) := by omega
          have i4 : (j : Int) < (N0 : Int) := by omega
          go_wp2
          go_quiet (fail)
          go_wp2
          go_roundw
          case rel => exact ⟨j + 1, by omega, by go_num, below_drewN hnx _⟩
          case measure => simp [intOf]; omega
        · have hfin := hbel.trans (hnx.mono hB)
          obtain ⟨w4, rfl⟩ : ∃ w4 : World, w4 = wr := ⟨_, rfl⟩
          have hHN : L = N0 + h := by omega
          have HHN := Hid.mk' hHN
          clear hHN
          go_wp2
          go_loop [15, 16] (fun acc i => ∃ k : Nat, k ≤ h ∧ i = .int .i64 ((N0 : Int) + (k : Int)) ∧ acc = .int .u64 ((a % 2 ^ k : Nat) : Int)) (fun _ i => L - (intOf i).toNat)
          case atStart => exact ⟨0, Nat.zero_le _, by simp, by simp [Nat.mod_one]⟩
          case round =>
            obtain ⟨k2, hk2, rfl, rfl⟩ := hrel
            by_cases hlt3 : k2 < h
            · have hkL : N0 + k2 < L := by have := HHN.out; omega
              obtain ⟨gb, rfl, hgb, hcb⟩ := HBO.out (by omega)
              have c0 := (hnx.cell (p := ⟨gb, N0 + k2, none⟩) hgb).trans (hcb (N0 + k2) hkL)
              rw [bitCells_at T L _ hkL, held_bit T a q N0 k2 H3.out H5.out] at c0
              clear hcb HBO HOO
              have hbb : a / 2 ^ k2 % 2 < 2 := Nat.mod_lt _ (by omega)
              have hA := or_step a k2 (by omega)
              obtain ⟨bb, hb⟩ : ∃ bb, a / 2 ^ k2 % 2 = bb := ⟨_, rfl⟩
              obtain ⟨A, hAe⟩ : ∃ A, a % 2 ^ k2 = A := ⟨_, rfl⟩
              obtain ⟨A', hAe'⟩ : ∃ A, a % 2 ^ (k2 + 1) = A := ⟨_, rfl⟩
              rw [hb] at c0 hbb hA
              rw [hAe, hAe'] at hA
              rw [hAe]
              have HE' := Hid.mk' hAe'
              have ht : ((N0 : Int) + (k2 : Int)).toNat = N0 + k2 := by omega
              have hs1 : (N0 : Int) + (k2 : Int) - (N0 : Int) = (k2 : Int) := by omega
              clear hb hAe hAe'
              go_wp2
              go_roundw
              case rel => exact ⟨k2 + 1, by omega, by go_num, by rw [HE'.out]⟩
              case measure => simp [intOf]; omega
            · obtain rfl : k2 = h := by omega
              have hhl : ¬ (N0 + k2 < L) := by have := HHN.out; omega
              rw [Nat.mod_eq_of_lt (Held.lt ⟨H1.out, e2, H3.out, H4.out⟩)]
              go_wp2
              go_ret
              exact ⟨by simp, hfin⟩

end Go.Proofs.Ybulkdcvi
