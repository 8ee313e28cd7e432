/-
  'grow', 'AppendUint64' and 'put' walked.
-/
import Derived.Test.YbulkdcviBits
import Derived.Deep.RegionWith
namespace Go.Proofs.Ybulkdcvi
open Go.RowKit Go.Deep Go.Proofs.Ybulkdcvi.Aid

set_option maxHeartbeats 400000 in
theorem grow_any (B : Nat) (v : Value) (l : Nat) (xs : List Value) (w : World) (hB : B ≤ w.heap.size) (hl : l ≤ 1000000) (hown : w.ownsRow B 5 1 v l xs) (hone : ∀ u ∈ xs, u.oneCell' = true) :
    Calls Yba.prog 8 #[v, .int .i64 8] w fun e w' => ∃ v', e = .returned v' ∧ Ext B 5 w w' v v' l xs 0 [] := by
  obtain ⟨i0, hi, hz0, hz1, hz2⟩ := info_parts Yba.info5
  rcases hown.2 with ⟨rfl, rfl⟩ | ⟨g, cap, cur, rfl, hbg, hg, hnc, hcm, hcs, htake⟩
  · have hmk := fun w : World => run_make (P := Yba.prog) w 22 5 i0 _ Yba.underlying22 hi hz0 .i64 .i64 0 16 (by omega) (by omega) (by rw [hz2]; omega) (by omega)
    simp only [hz1] at hmk
    obtain rfl : xs = [] := List.eq_nil_of_length_eq_zero (by simpa using hown.1)
    have hmo := World.ownsRow_made (base := B) (e := 5) (size := 1) w (madeCells #[.int .u8 0] 16) 16 hB (by decide) (by simp [size_madeCells])
    go_enter Yba.func8, Yba.ntmps8
    go_wp2_with (at_builtin; refine wpList_append_none rfl (.tmp 18) (.tmp 19) 22 rfl B 5 i0 Yba.underlying22 hi _ _ _ rfl hmo rfl ?_)
    go_ret
    exact ⟨_, rfl, Ext.moved hown hmo (fun k hk => Below.heap_alloc _ _ _ hk) rfl rfl rfl (by simp) ⟨_, rfl, Nat.le_refl _⟩⟩
  · unfold maxLen at hcm
    by_cases hr : l + 8 ≤ cap
    · go_enter Yba.func8, Yba.ntmps8
      go_wp2
      go_ret
      exact ⟨_, rfl, Ext.refl hown⟩
    · have hmk := fun w : World => run_make (P := Yba.prog) w 22 5 i0 _ Yba.underlying22 hi hz0 .i64 .i64 0 (2 * ((l : Int) + 8)) (by omega) (by omega) (by rw [hz2]; omega) (by omega)
      have ht : (2 * ((l : Int) + 8)).toNat = 2 * (l + 8) := by omega
      simp only [hz1, ht, Nat.mul_one] at hmk
      clear ht
      have hmo := World.ownsRow_made (base := B) (e := 5) (size := 1) w (madeCells #[.int .u8 0] (2 * (l + 8))) (2 * (l + 8)) hB (by unfold maxLen; omega) (by simp [size_madeCells])
      have hxl : xs.length = l := by simpa using hown.1
      clear hg htake
      go_enter Yba.func8, Yba.ntmps8
      go_wp2_with (at_builtin; refine wpList_append_ext rfl (.tmp 18) (.tmp 19) 22 rfl B 5 i0 (.int .u8 0) 1 Yba.underlying22 hi hz0 hz1 hz2 rfl _ _ _ rfl hmo ⟨g, 0, none⟩ l cap xs rfl hxl ?c1 ?c2 ?c3 ?c4 ?c5 ?_)
      case c1 => exact (hown.alloc _).cells rfl
      case c2 => exact hone
      case c3 => unfold maxLen; omega
      case c4 => omega
      case c5 => simp; omega
      intro v' w1 hext
      go_wp2
      go_ret
      refine ⟨_, rfl, Ext.moved hown (by simpa using hext.own) (fun k hk => ?_) hext.grown.os hext.grown.tape hext.grown.output (by have := hext.grown.size; simp at this; omega) ?_⟩
      · rw [hext.grown.block k (by simp; omega) (by simp [Value.ownBlock]; omega), Below.heap_alloc _ _ _ hk]
      · rcases hext.place with hp | ⟨k, hp, hk⟩
        · exact ⟨_, hp, Nat.le_refl _⟩
        · exact ⟨k, hp, by simp at hk; omega⟩

theorem le_bytes (x : Nat) (hx : x < 18446744073709551616) : ([.int .u8 ((x : Int) % 256), .int .u8 ((x : Int) / 256 % 256), .int .u8 ((x : Int) / 65536 % 256), .int .u8 ((x : Int) / 16777216 % 256), .int .u8 ((x : Int) / 4294967296 % 256),
    .int .u8 ((x : Int) / 1099511627776 % 256), .int .u8 ((x : Int) / 281474976710656 % 256), .int .u8 ((x : Int) / 72057594037927936)] : List Value) = (List.range 8).map fun j => .int .u8 ((x / 2 ^ (8 * j) % 256 : Nat) : Int) := by
  simp [List.range_succ]
  omega

set_option maxHeartbeats 400000 in
theorem app_any (B : Nat) (v : Value) (l : Nat) (xs : List Value) (x : Nat) (w : World) (hB : B ≤ w.heap.size) (hl : l ≤ 1000000) (hx : x < 18446744073709551616) (hown : w.ownsRow B 5 1 v l xs) :
    Calls Yba.prog 7 #[.agg #[], v, .int .u64 x] w fun e w' => ∃ v', e = .returned v' ∧ Ext B 5 w w' v v' l xs 8 ((List.range 8).map fun j => .int .u8 ((x / 2 ^ (8 * j) % 256 : Nat) : Int)) := by
  obtain ⟨i0, hi, hz0, hz1, hz2⟩ := info_parts Yba.info5
  rw [← le_bytes x hx]
  go_enter Yba.func7, Yba.ntmps7
  go_wp2_with (at_builtin; refine wpList_append_ext rfl (.tmp 7) (.tmp 31) 22 rfl B 5 i0 (.int .u8 0) 1 Yba.underlying22 hi hz0 hz1 hz2 rfl _ _ _ rfl ((hown.alloc _).alloc _) ⟨w.heap.size + 1, 0, none⟩ 8 8 [.int .u8 ((x : Int) % 256), .int .u8 ((x : Int) / 256 % 256), .int .u8 ((x : Int) / 65536 % 256), .int .u8 ((x : Int) / 16777216 % 256), .int .u8 ((x : Int) / 4294967296 % 256), .int .u8 ((x : Int) / 1099511627776 % 256), .int .u8 ((x : Int) / 281474976710656 % 256), .int .u8 ((x : Int) / 72057594037927936)] rfl rfl ?c1 ?c2 ?c3 ?c4 ?c5 ?_)
  case c1 => exact cells_new2 _ _ _ _
  case c2 => intro u hu; simp at hu; rcases hu with h | h | h | h | h | h | h | h <;> subst h <;> rfl
  case c3 => unfold maxLen; omega
  case c4 => omega
  case c5 => simp; omega
  intro v' w1 hext
  go_wp2
  go_ret
  exact ⟨_, rfl, Ext.of_alloc (Ext.of_alloc hext)⟩

theorem and63 (h : Nat) (hh : h < 64) : bits .and .u64 (h : Int) 63 = (h : Int) := by
  have e := u64_and_nat h 63 (by omega) (by omega)
  have h1 : ((63 : Nat) : Int) = 63 := rfl
  rw [h1] at e
  rw [e, nat_mask6, Nat.mod_eq_of_lt hh]

theorem and63' (h : Nat) (h1 : 1 ≤ h) (hh : h < 64) : bits .and .u64 (64 - (h : Int)) 63 = ((64 - h : Nat) : Int) := by
  have e := and63 (64 - h) (by omega)
  have h2 : ((64 - h : Nat) : Int) = 64 - (h : Int) := by omega
  rw [h2] at e ⊢
  exact e

theorem or_join (a h x : Nat) (hh : h < 64) (ha : a < 2 ^ h) : bits .or .u64 (a : Int) (IntKind.u64.wrap ((x : Int) * 2 ^ h)) = (((a + x * 2 ^ h) % 18446744073709551616 : Nat) : Int) := by
  have hp : 2 ^ (64 - h) * 2 ^ h = 18446744073709551616 := by rw [← Nat.pow_add, show 64 - h + h = 64 from by omega]
  have hpos : 0 < 2 ^ (64 - h) := Nat.two_pow_pos _
  have e1 : IntKind.u64.wrap ((x : Int) * 2 ^ h) = ((x % 2 ^ (64 - h) * 2 ^ h : Nat) : Int) := by
    rw [IntKind.wrap_u64, ← Nat.mul_mod_mul_right, hp]
    simp
  have hlt : x % 2 ^ (64 - h) * 2 ^ h + 2 ^ h ≤ 18446744073709551616 := by
    rw [← hp, ← Nat.succ_mul]
    exact Nat.mul_le_mul_right _ (Nat.mod_lt _ hpos)
  rw [e1, u64_or_nat _ _ (by omega) (by omega), Nat.or_comm, nat_join h _ a (Nat.mul_mod_left _ _) ha]
  congr 1
  have e2 : x * 2 ^ h % 18446744073709551616 = x % 2 ^ (64 - h) * 2 ^ h := by rw [← hp, Nat.mul_mod_mul_right]
  have e3 : a % 18446744073709551616 = a := Nat.mod_eq_of_lt (by omega)
  have e4 : (a + x % 2 ^ (64 - h) * 2 ^ h) % 18446744073709551616 = a + x % 2 ^ (64 - h) * 2 ^ h := Nat.mod_eq_of_lt (by omega)
  rw [Nat.add_mod, e2, e3, e4, Nat.add_comm]

set_option maxHeartbeats 400000 in
theorem put_stay (v : Value) (a h x m : Nat) (w : World) (hh : h < 64) (hm : h + m < 64) (ha : a < 2 ^ h) (hx : x < 2 ^ m) :
    Calls Yba.prog 6 #[v, .int .u64 a, .int .u64 h, .int .u64 x, .int .u64 m] w fun e w' => e = .returned (.tuple #[v, .int .u64 ((a + x * 2 ^ h : Nat) : Int), .int .u64 ((h + m : Nat) : Int)]) ∧ w' = w := by
  have h63 := and63 h hh
  have ho := or_join a h x hh ha
  have hb : a + x * 2 ^ h < 18446744073709551616 := by
    have h1 : (x + 1) * 2 ^ h ≤ 2 ^ m * 2 ^ h := Nat.mul_le_mul_right _ hx
    rw [Nat.succ_mul, ← Nat.pow_add] at h1
    have h2 : 2 ^ (m + h) ≤ 2 ^ 64 := Nat.pow_le_pow_right (by omega) (by omega)
    omega
  rw [Nat.mod_eq_of_lt hb] at ho
  generalize hA : a + x * 2 ^ h = A at *
  clear hA hb ha hx
  go_enter Yba.func6, Yba.ntmps6
  go_wp2
  go_ret3
  exact ⟨by simp, rfl⟩

set_option maxHeartbeats 400000 in
theorem put_spill (B : Nat) (v : Value) (l : Nat) (xs : List Value) (a h x m : Nat) (w : World) (hB : B ≤ w.heap.size) (hl : l ≤ 900000) (hown : w.ownsRow B 5 1 v l xs) (hone : ∀ u ∈ xs, u.oneCell' = true)
    (hh : h < 64) (hm : 64 ≤ h + m) (hm2 : m ≤ 56) (ha : a < 2 ^ h) (hx : x < 2 ^ m) :
    Calls Yba.prog 6 #[v, .int .u64 a, .int .u64 h, .int .u64 x, .int .u64 m] w fun e w' => ∃ v', e = .returned (.tuple #[v', .int .u64 ((x / 2 ^ (64 - h) : Nat) : Int), .int .u64 ((h + m - 64 : Nat) : Int)]) ∧
      Ext B 5 w w' v v' l xs 8 ((List.range 8).map fun j => .int .u8 (((a + x * 2 ^ h) % 18446744073709551616 / 2 ^ (8 * j) % 256 : Nat) : Int)) := by
  have h63 := and63 h hh
  have h64 := and63' h (by omega) hh
  have ho := or_join a h x hh ha
  have hAl : (a + x * 2 ^ h) % 18446744073709551616 < 18446744073709551616 := Nat.mod_lt _ (by omega)
  generalize hA : (a + x * 2 ^ h) % 18446744073709551616 = A at *
  have hx64 : x < 18446744073709551616 := Nat.lt_of_lt_of_le hx (Nat.le_trans (Nat.pow_le_pow_right (by omega) (show m ≤ 64 by omega)) (by decide))
  have hw1 : IntKind.u64.wrap (64 - (h : Int)) = 64 - (h : Int) := by rw [IntKind.wrap_u64]; omega
  have hw2 : IntKind.u64.wrap ((h : Int) + (m : Int)) = (h : Int) + (m : Int) := by rw [IntKind.wrap_u64]; omega
  have hw3 : IntKind.u64.wrap ((h : Int) + (m : Int) - 64) = (h : Int) + (m : Int) - 64 := by rw [IntKind.wrap_u64]; omega
  clear hA ha hx
  go_enter Yba.func6, Yba.ntmps6
  go_wp2_with fail
  go_region_with (first
    | (go_at_call 8; refine (grow_any B v l xs _ (by exact hB) (by omega) (by exact hown) hone).mono ?_; rintro e w1 ⟨v1, rfl, hext1⟩)
    | (go_at_call 7; refine (app_any B v1 l xs A _ (by exact Nat.le_trans hB hext1.grown.size) (by omega) hAl (by simpa using hext1.own)).mono ?_; rintro e w2 ⟨v2, rfl, hext2⟩))
  all_goals (try go_wp2)
  all_goals go_ret3
  all_goals refine ⟨v2, by simp [Act.put]; omega, ?_⟩
  all_goals exact Ext.then0 hown (Ext.of_drew hext1) hext2

end Go.Proofs.Ybulkdcvi
