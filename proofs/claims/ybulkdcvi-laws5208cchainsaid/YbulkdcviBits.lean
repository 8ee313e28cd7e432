/-
  'zzs5208cbitsof' walked: it appends the n lowest bits of x.
-/
import Derived.Test.YbulkdcviProg
import Derived.Test.YbulkdcviAid
namespace Go.Proofs.Ybulkdcvi
open Go.RowKit Go.Deep Go.Proofs.Ybulkdcvi.Aid

theorem Yba.info5 : (Yba.prog.info? 5).map (fun i => (i.zero, i.size, i.bytes)) = some (some (.int .u8 0), 1, 1) := by kernel_rfl

/-- the n lowest bits of x, the lowest first, as cells -/
def bitCells (x : Nat) (n : Nat) : List Value := (List.range n).map fun i => .int .u8 ((x / 2 ^ i % 2 : Nat) : Int)

theorem bitCells_succ (x n : Nat) : bitCells x (n + 1) = bitCells x n ++ [.int .u8 ((x / 2 ^ n % 2 : Nat) : Int)] := by
  simp [bitCells, List.range_succ]

theorem bit_val (x k : Nat) (hx : x < 18446744073709551616) : bits .and .u64 ((x : Int) / 2 ^ k) 1 % 256 = ((x / 2 ^ k % 2 : Nat) : Int) := by
  have hlt : x / 2 ^ k < 18446744073709551616 := Nat.lt_of_le_of_lt (Nat.div_le_self _ _) hx
  have e : ((x : Int) / 2 ^ k) = ((x / 2 ^ k : Nat) : Int) := by simp
  have h := u64_and_nat (x / 2 ^ k) 1 hlt (by omega)
  rw [e]
  have h1 : ((1 : Nat) : Int) = 1 := rfl
  rw [h1] at h
  rw [h, nat_mask1]
  omega

set_option maxHeartbeats 400000 in
theorem bits_any (B : Nat) (v : Value) (l : Nat) (xs : List Value) (x n : Nat) (w : World) (hB : B ≤ w.heap.size) (hx : x < 18446744073709551616) (hn : n ≤ 64) (hl : l ≤ 1000000) (hown : w.ownsRow B 5 1 v l xs) :
    Calls Yba.prog 5 #[v, .int .u64 x, .int .u64 n] w fun e w' => ∃ v', e = .returned v' ∧ Ext B 5 w w' v v' l xs n (bitCells x n) := by
  obtain ⟨i0, hi, hz0, hz1, hz2⟩ := info_parts Yba.info5
  go_enter Yba.func5, Yba.ntmps5
  go_wp2
  go_loopw [0, 7] (fun v' i wr => ∃ k : Nat, k ≤ n ∧ i = .int .u64 k ∧ Ext B 5 w wr v v' l xs k (bitCells x k)) (fun _ i _ => n - (intOf i).toNat)
  case atStart => exact ⟨0, Nat.zero_le _, rfl, Ext.refl hown⟩
  case round =>
    obtain ⟨k, hkn, rfl, hext⟩ := hrel
    by_cases hlt : k < n
    · have hsz := hext.grown.size
      go_wp2_with (at_builtin; refine wpList_append_ext rfl (.tmp 13) (.tmp 19) 22 rfl B 5 i0 (.int .u8 0) 1 Yba.underlying22 hi hz0 hz1 hz2 rfl _ _ _ rfl (hext.own.alloc _) ⟨wr.heap.size, 0, none⟩ 1 1 [.int .u8 (bits .and .u64 ((x : Int) / 2 ^ k) 1 % 256)] rfl rfl ?c1 ?c2 ?c3 ?c4 ?c5 ?_)
      case c1 => exact cell_one_new _ _ _
      case c2 => first | rfl | (intro u hu; simp at hu; subst hu; rfl)
      case c3 => unfold maxLen; omega
      case c4 => omega
      case c5 => simp; omega
      intro v' w1 hext'
      have hfin := hext.trans hown (Ext.of_alloc hext')
      rw [bit_val x k hx, ← bitCells_succ] at hfin
      clear hext hext'
      go_wp2
      go_roundw
      case rel => exact ⟨k + 1, by omega, by go_num, hfin⟩
      case measure => simp [intOf]; omega
    · obtain rfl : k = n := by omega
      go_wp2
      go_ret
      exact ⟨_, rfl, hext⟩

end Go.Proofs.Ybulkdcvi
