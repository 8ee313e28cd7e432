/-
  'LawS5208CModel' walked: the case in which the bits stay held (h + m < 64).
-/
import Derived.Test.YbulkdcviPut
import Derived.Test.YbulkdcviPlain
import Derived.Deep.QuietTactic
import Derived.BigQuiet
namespace Go.Proofs.Ybulkdcvi
open Go.RowKit Go.Deep Go.Proofs.Ybulkdcvi.Aid Go.Proofs.Ybulkdcvi.Plain

theorem Hid.mk' {p : Prop} (h : p) : Hid p := h

theorem bitCells_append (a x h m : Nat) (ha : a < 2 ^ h) : bitCells a h ++ bitCells x m = bitCells (a + x * 2 ^ h) (h + m) := by
  unfold bitCells
  rw [List.range_add, List.map_append, List.map_map]
  congr 1
  · refine List.map_congr_left fun i hi => ?_
    rw [bit_low a x h i (List.mem_range.1 hi)]
  · refine List.map_congr_left fun j _ => ?_
    show _ = Value.int .u8 (((a + x * 2 ^ h) / 2 ^ (h + j) % 2 : Nat) : Int)
    rw [shift_high a x h j ha]

theorem bitCells_at (T n k : Nat) (hk : k < n) : (bitCells T n)[k]? = some (.int .u8 ((T / 2 ^ k % 2 : Nat) : Int)) := by
  simp [bitCells, hk]

theorem bitCells_len (T n : Nat) : (bitCells T n).length = n := by simp [bitCells]

theorem own_shape {w : World} {base : Nat} {e : TypeId} {v : Value} {n : Nat} {xs : List Value} (h : w.ownsRow base e 1 v n xs) :
    ∃ (ao : Option Addr) (cap : Nat), v = .slice ao n cap ∧ n ≤ cap ∧ cap ≤ maxLen ∧ (0 < n → ∃ g, ao = some ⟨g, 0, none⟩ ∧ g < w.heap.size ∧ ∀ j, j < n → w.cell? ⟨g, j, none⟩ = xs[j]?) := by
  have h' := h
  rcases h.2 with ⟨rfl, rfl⟩ | ⟨g, cap, cur, rfl, hb, hh, hnc, hcm, _⟩
  · exact ⟨none, 0, rfl, Nat.le_refl _, by decide, fun h => absurd h (by omega)⟩
  · exact ⟨_, cap, rfl, hnc, hcm, fun _ => ⟨g, rfl, (Array.getElem?_eq_some_iff.1 hh).1, fun j hj => h'.cellAt j (by omega)⟩⟩

theorem mask_u64 (A h : Nat) (hh : h < 64) (hA : A < 18446744073709551616) : bits .and .u64 (A : Int) (IntKind.u64.wrap (IntKind.u64.wrap (2 ^ h) - 1)) = ((A % 2 ^ h : Nat) : Int) := by
  have hp : 2 ^ h ≤ 2 ^ 63 := Nat.pow_le_pow_right (by omega) (by omega)
  have hpos : 0 < 2 ^ h := Nat.two_pow_pos _
  have e1 : IntKind.u64.wrap (2 ^ h) = ((2 ^ h : Nat) : Int) := by
    rw [IntKind.wrap_u64]
    have : ((2 : Int) ^ h) = ((2 ^ h : Nat) : Int) := by simp
    rw [this]
    omega
  have e2 : IntKind.u64.wrap (((2 ^ h : Nat) : Int) - 1) = ((2 ^ h - 1 : Nat) : Int) := by
    rw [IntKind.wrap_u64]
    omega
  rw [e1, e2, u64_and_nat _ _ hA (by omega), Nat.and_two_pow_sub_one_eq_mod]

theorem or_step (T k : Nat) (hk : k < 64) : bits .or .u64 ((T % 2 ^ k : Nat) : Int) (IntKind.u64.wrap (((T / 2 ^ k % 2 : Nat) : Int) * 2 ^ k)) = ((T % 2 ^ (k + 1) : Nat) : Int) := by
  have hlt : T % 2 ^ (k + 1) < 18446744073709551616 := Nat.lt_of_lt_of_le (Nat.mod_lt _ (Nat.two_pow_pos _)) (Nat.le_trans (Nat.pow_le_pow_right (by omega) (show k + 1 ≤ 64 by omega)) (by decide))
  rw [or_join _ k _ hk (Nat.mod_lt _ (Nat.two_pow_pos _)), ← mod_succ, Nat.mod_eq_of_lt hlt]

/-- What the law is told of the slice that came in. -/
def IsDst (w : World) (a0 : Option Addr) (len : Nat) (Z : Nat → Int) : Prop :=
  0 < len → ∃ b off, a0 = some ⟨b, off, none⟩ ∧ b < w.heap.size ∧ ∀ j, j < len → w.cell? ⟨b, off + j, none⟩ = some (.int .u8 (Z j))

theorem dst_src {w : World} {a0 : Option Addr} {len : Nat} {Z : Nat → Int} {o : Obj} (h : IsDst w a0 len Z) (h0 : 0 < len) :
    ∃ ad, a0 = some ad ∧ ∀ j v, ((List.range len).map fun j => Value.int .u8 (Z j))[j]? = some v → (w.alloc o).cell? (ad.add j) = some v := by
  obtain ⟨b, off, rfl, hb, hc⟩ := h h0
  refine ⟨_, rfl, fun j v hv => ?_⟩
  have hj : j < len := by
    have := (List.getElem?_eq_some_iff.1 hv).1
    simpa using this
  have hadd : (⟨b, off, none⟩ : Addr).add j = ⟨b, off + j, none⟩ := by unfold Addr.add; split <;> simp_all
  have hbl : (w.alloc o).cell? ⟨b, off + j, none⟩ = w.cell? ⟨b, off + j, none⟩ := World.cell?_of_block (Below.heap_alloc _ _ _ hb)
  rw [hadd, hbl, hc j hj]
  simpa [hj] using hv

theorem dst_one (Z : Nat → Int) (len : Nat) : ∀ v ∈ (List.range len).map fun j => Value.int .u8 (Z j), v.oneCell' = true := by
  intro v hv
  obtain ⟨j, _, rfl⟩ := List.mem_map.1 hv
  rfl

theorem dst_at (Z : Nat → Int) {len j : Nat} (hj : j < len) : ((List.range len).map fun j => Value.int .u8 (Z j))[j]? = some (.int .u8 (Z j)) := by
  simp [hj]

set_option maxRecDepth 100000 in
set_option maxHeartbeats 1000000 in
theorem model_stay (a0 : Option Addr) (len cap S AC HE V N : Nat) (Z : Nat → Int) (w : World) (hlen : len ≤ 1024) (hS : S < 256) (hHE : HE < 18446744073709551616) (hN : N < 18446744073709551616)
    (HD : IsDst w a0 len Z) (h m a x sp : Nat) (hh : h < 64) (hm : m ≤ 56) (ha : a < 2 ^ h) (hx : x < 2 ^ m) (hsp : sp < 16) (hs16 : (S : Int) % 16 = (sp : Int)) (hh64 : (HE : Int) % 64 = (h : Int)) (hm57 : (N : Int) % 57 = (m : Int))
    (hm1 : bits .and .u64 (AC : Int) (IntKind.u64.wrap (IntKind.u64.wrap (2 ^ h) - 1)) = (a : Int)) (hm2 : bits .and .u64 (V : Int) (IntKind.u64.wrap (IntKind.u64.wrap (2 ^ m) - 1)) = (x : Int))
    (hstay : h + m < 64) :
    Calls Yba.prog 3 #[.slice a0 len cap, .int .u8 S, .int .u64 AC, .int .u64 HE, .int .u64 V, .int .u64 N] w fun e w' => e = .returned (.bool true) ∧ Below w.heap.size w w' := by
  obtain ⟨i0, hi, hz0, hz1, hz2⟩ := info_parts Yba.info5
  have ht : ((len : Int) + (sp : Int)).toNat = len + sp := by omega
  have hmk := fun w : World => run_make (P := Yba.prog) w 22 5 i0 _ Yba.underlying22 hi hz0 .i64 .i64 (len : Int) ((len : Int) + (sp : Int)) (by omega) (by omega) (by rw [hz2]; omega) (by omega)
  simp only [hz1, ht, Nat.mul_one, Int.toNat_natCast] at hmk
  clear ht
  have ha64 : a < 18446744073709551616 := Nat.lt_of_lt_of_le ha (Nat.le_trans (Nat.pow_le_pow_right (by omega) (show h ≤ 64 by omega)) (by decide))
  have hx64 : x < 18446744073709551616 := Nat.lt_of_lt_of_le hx (Nat.le_trans (Nat.pow_le_pow_right (by omega) (show m ≤ 64 by omega)) (by decide))
  have hT := lt_join a x h m ha hx
  have hmo := made_len (base := w.heap.size) (e := 5) w (madeCells #[.int .u8 0] (len + sp)) len (len + sp) (Nat.le_refl _) (by omega) (by unfold maxLen; omega) (by simp [size_madeCells])
  have HA := Hid.mk' ha
  have HX := Hid.mk' hx
  have HT := Hid.mk' hT
  clear ha hx hT
  go_enter Yba.func3, Yba.ntmps3
  go_wp2_with (refine wpList_copy_one rfl (.tmp 55) (.tmp 56) 22 22 rfl w.heap.size 5 5 w.heap.size len (len + sp) a0 cap _ ((List.range len).map fun j => .int .u8 (Z j)) rfl rfl Yba.underlying22 (by simp [hi, hz1]) hmo (by simp) ?c1 ?c2 ?_)
  case c1 => exact dst_src HD
  case c2 => exact dst_one Z len
  intro w1 hd1 hgr1
  have hb01 : Below w.heap.size w w1 := Below.grown ((Below.refl _ _).alloc (Nat.le_refl _) _) hgr1 (by simp) (fun k hk => by simp at hk; omega)
  clear hgr1 hmo hmk
  go_wp2_with fail
  refine (bits_any w1.heap.size (.slice none 0 0) 0 [] a h w1 (Nat.le_refl _) ha64 (by omega) (by omega) (World.ownsRow_nil _ _ _ _)).mono ?_
  rintro e w2 ⟨v1, rfl, hx1⟩
  have hb12 : Below w1.heap.size w1 w2 := Below.grown (Below.refl _ _) hx1.grown (Nat.le_refl _) (fun k hk => by simp [Value.ownBlock] at hk)
  have ho1 : w2.ownsRow w1.heap.size 5 1 v1 h (bitCells a h) := by simpa using hx1.own
  clear hx1
  go_wp2_with fail
  refine (bits_any w1.heap.size v1 h (bitCells a h) x m w2 hb12.size hx64 (by omega) (by omega) ho1).mono ?_
  rintro e w3 ⟨v2, rfl, hx2⟩
  have hb13 : Below w1.heap.size w1 w3 := Below.grown hb12 hx2.grown hb12.size (fun k hk => (ho1.lt k hk).1)
  have ho2 := hx2.own
  rw [bitCells_append a x h m HA.out] at ho2
  clear hx2 ho1 hb12
  have hput := put_stay (.slice (some ⟨w.heap.size, 0, none⟩) len (len + sp)) a h x m w3 hh hstay HA.out HX.out
  obtain ⟨T, hT⟩ : ∃ T, a + x * 2 ^ h = T := ⟨_, rfl⟩
  obtain ⟨n, hn⟩ : ∃ n, h + m = n := ⟨_, rfl⟩
  have HT2 := HT.out
  rw [hT, hn] at hput ho2 HT2
  have hn64 : n < 64 := by omega
  have HP := Hid.mk' hput
  have HT3 := Hid.mk' HT2
  clear hT hn hput HT2 HT
  go_wp2_with fail
  refine HP.out.mono ?_
  rintro e w' ⟨rfl, rfl⟩
  obtain ⟨bo, bc, rfl, hbn, hbm, hbo⟩ := own_shape ho2
  have HBO := Hid.mk' hbo
  clear hbo HP
  go_wp2
  go_loop [25, 26] (fun acc i => ∃ k : Nat, k ≤ n ∧ i = .int .i64 k ∧ acc = .int .u64 ((T % 2 ^ k : Nat) : Int)) (fun _ i => n - (intOf i).toNat)
  case atStart => exact ⟨0, Nat.zero_le _, rfl, by simp [Nat.mod_one]⟩
  case round =>
    obtain ⟨k, hkn, rfl, rfl⟩ := hrel
    by_cases hlt : k < n
    · obtain ⟨gb, rfl, hgb, hcb⟩ := HBO.out (by omega)
      have c0 := hcb k hlt
      rw [bitCells_at T n k hlt] at c0
      clear hcb HBO
      have hbb : T / 2 ^ k % 2 < 2 := Nat.mod_lt _ (by omega)
      have hA := or_step T k (by omega)
      obtain ⟨bb, hb⟩ : ∃ bb, T / 2 ^ k % 2 = bb := ⟨_, rfl⟩
      obtain ⟨A, hAe⟩ : ∃ A, T % 2 ^ k = A := ⟨_, rfl⟩
      obtain ⟨A', hAe'⟩ : ∃ A, T % 2 ^ (k + 1) = A := ⟨_, rfl⟩
      rw [hb] at c0 hbb hA
      rw [hAe, hAe'] at hA
      rw [hAe]
      have HE' := Hid.mk' hAe'
      clear hb hAe hAe'
      go_wp2
      go_roundw
      case rel => exact ⟨k + 1, by omega, by go_num, by rw [HE'.out]⟩
      case measure => simp [intOf]; omega
    · obtain rfl : k = n := by omega
      rw [Nat.mod_eq_of_lt HT3.out]
      have hd3 := ownsRow_below hd1 hb13
      have hb03 := hb01.trans (hb13.mono hb01.size)
      clear hb01 hb13 hd1 ho2 HBO
      go_wp2
      go_loopw [27] (fun i wr => ∃ j : Nat, j ≤ len ∧ i = .int .i64 j ∧ Below w'.heap.size w' wr) (fun i _ => len - (intOf i).toNat)
      case atStart => exact ⟨0, Nat.zero_le _, rfl, Below.refl _ _⟩
      case round =>
        obtain ⟨j, hjl, rfl, hnx⟩ := hrel
        by_cases hlt2 : j < len
        · obtain ⟨b, off, rfl, hbw, hcb⟩ := HD (by omega)
          have c0 := ((hnx.cell (p := ⟨b, off + j, none⟩) (Nat.lt_of_lt_of_le hbw hb03.size)).trans (hb03.cell (by exact hbw))).trans (hcb j hlt2)
          have c1 := (hnx.cell (p := ⟨w.heap.size, j, none⟩) (hd3.lt _ rfl).2).trans (hd3.cellAt j (by omega))
          rw [dst_at Z hlt2] at c1
          clear hcb HD hd3 hb03
          have i1 : (0 : Int) ≤ (j : Int) := by omega
          have i2 : (j : Int) < (len : Int) := by omega
          go_wp2
          go_quiet (fail)
          go_wp2
          go_roundw
          case rel => exact ⟨j + 1, by omega, by go_num, below_drewN hnx _⟩
          case measure => simp [intOf]; omega
        · obtain rfl : j = len := by omega
          go_wp2
          refine wp_loop_rounds 1 ?_
          rw [rounds_succ]
          go_wp2
          go_ret
          exact ⟨rfl, hb03.trans (hnx.mono hb03.size)⟩

end Go.Proofs.Ybulkdcvi
