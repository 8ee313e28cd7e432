/-
  'binary.BigEndian.Uint64' and 'zzs5204aless' walked.
-/
import Derived.Test.YbonekuxeGreatKeys
import Derived.Lib.Endian
import Derived.Lib.EndianBits
namespace Go.Proofs.YbonekuxeGreat
open Go.RowKit Go.Deep Go.Proofs.YbonekuxeGreat.Plain

theorem cell_old {W : World} {a : Addr} {v : Value} (o : Obj) (h : W.cell? a = some v) : (W.alloc o).cell? a = some v := by
  rw [World.cell?_alloc_lt _ _ _ (World.block_lt_of_cell? W a h)]; exact h

set_option maxHeartbeats 8000000 in
set_option maxRecDepth 100000 in
theorem big_any (g n c : Nat) (b : Nat → UInt8) (w : World) (hn : 8 ≤ n) (hc : ∀ j, j < 8 → w.cell? ⟨g, j, none⟩ = some (.int .u8 (b j).toNat)) :
    Calls Ybgs.prog 4 #[.agg #[], .slice (some ⟨g, 0, none⟩) n c] w fun e w' => e = .returned (.int .u64 (hdN 8 [b 0, b 1, b 2, b 3, b 4, b 5, b 6, b 7])) ∧ ∃ k, w' = (w.alloc (.cells #[] 37)).drewN k := by
  have d0 := cell_old (.cells #[] 37) (hc 0 (by omega))
  have d1 := cell_old (.cells #[] 37) (hc 1 (by omega))
  have d2 := cell_old (.cells #[] 37) (hc 2 (by omega))
  have d3 := cell_old (.cells #[] 37) (hc 3 (by omega))
  have d4 := cell_old (.cells #[] 37) (hc 4 (by omega))
  have d5 := cell_old (.cells #[] 37) (hc 5 (by omega))
  have d6 := cell_old (.cells #[] 37) (hc 6 (by omega))
  have d7 := cell_old (.cells #[] 37) (hc 7 (by omega))
  have h0 : (b 0).toNat < 256 := (b 0).toNat_lt
  have h1 : (b 1).toNat < 256 := (b 1).toNat_lt
  have h2 : (b 2).toNat < 256 := (b 2).toNat_lt
  have h3 : (b 3).toNat < 256 := (b 3).toNat_lt
  have h4 : (b 4).toNat < 256 := (b 4).toNat_lt
  have h5 : (b 5).toNat < 256 := (b 5).toNat_lt
  have h6 : (b 6).toNat < 256 := (b 6).toNat_lt
  have h7 : (b 7).toNat < 256 := (b 7).toNat_lt
  have hv : ((hdN 8 [b 0, b 1, b 2, b 3, b 4, b 5, b 6, b 7] : Nat) : Int) = ((b 7).toNat : Int) + ((b 6).toNat : Int) * 256 + ((b 5).toNat : Int) * 65536 + ((b 4).toNat : Int) * 16777216 + ((b 3).toNat : Int) * 4294967296 + ((b 2).toNat : Int) * 1099511627776 + ((b 1).toNat : Int) * 281474976710656 + ((b 0).toNat : Int) * 72057594037927936 := by
    simp only [hdN]
    omega
  clear hc
  generalize (b 0).toNat = x0 at *
  generalize (b 1).toNat = x1 at *
  generalize (b 2).toNat = x2 at *
  generalize (b 3).toNat = x3 at *
  generalize (b 4).toNat = x4 at *
  generalize (b 5).toNat = x5 at *
  generalize (b 6).toNat = x6 at *
  generalize (b 7).toNat = x7 at *
  have HV := Hid.mk' hv
  clear hv
  have q0 : 0 < n := by omega
  have q1 : (1 : Int) < (n : Int) := by omega
  have q2 : (2 : Int) < (n : Int) := by omega
  have q3 : (3 : Int) < (n : Int) := by omega
  have q4 : (4 : Int) < (n : Int) := by omega
  have q5 : (5 : Int) < (n : Int) := by omega
  have q6 : (6 : Int) < (n : Int) := by omega
  have q7 : (7 : Int) < (n : Int) := by omega
  go_enter Ybgs.func4, Ybgs.ntmps4
  go_wp2
  go_quiet (fail)
  go_wp2
  go_ret
  refine ⟨?_, ⟨_, rfl⟩⟩
  simp (disch := omega) only [u64_or8, u64_or16, u64_or24, u64_or32, u64_or40, u64_or48, u64_or56]
  rw [HV.out]
  rfl

theorem bytesLess_cb : ∀ x y : List UInt8, Op.bytesLess x y = decide (cb x y < 0)
  | [], [] => by simp [Op.bytesLess, cb, Lib.compareBytes]
  | _ :: _, [] => by simp [Op.bytesLess, cb, Lib.compareBytes]
  | [], _ :: _ => by simp [Op.bytesLess, cb, Lib.compareBytes]
  | a :: x, b :: y => by
    have ih := bytesLess_cb x y
    have hcb : cb (a :: x) (b :: y) = if a < b then -1 else if b < a then 1 else cb x y := rfl
    by_cases h1 : a < b
    · rw [if_pos h1] at hcb
      rw [decide_eq_true (show cb (a :: x) (b :: y) < 0 by omega)]
      simp [Op.bytesLess, h1]
    · rw [if_neg h1] at hcb
      by_cases h2 : b < a
      · rw [if_pos h2] at hcb
        rw [decide_eq_false (show ¬ cb (a :: x) (b :: y) < 0 by omega)]
        have h3 : (a == b) = false := by
          simp only [beq_eq_false_iff_ne, ne_eq]
          intro h; subst h; exact absurd h2 (UInt8.lt_irrefl _)
        simp only [Op.bytesLess, h3]
        simp [UInt8.not_lt.1 h1]
      · rw [if_neg h2] at hcb
        have h3 : a = b := UInt8.le_antisymm (UInt8.not_lt.1 h2) (UInt8.not_lt.1 h1)
        subst h3
        simp only [Op.bytesLess, ih, hcb]
        simp

theorem toList_data (a : ByteArray) : a.toList = a.data.toList := ByteArray.toList_eq a

set_option maxRecDepth 100000 in
theorem less_any (ka kb : ByteArray) (ca cb' : Nat) (w : World) :
    Calls Ybgs.prog 5 #[.string ka, .int .u8 ca, .string kb, .int .u8 cb'] w fun e w' => e = .returned (.bool (decide (ca < cb' ∨ (ca = cb' ∧ cb ka.data.toList kb.data.toList < 0)))) ∧ w' = w := by
  go_enter Ybgs.func5, Ybgs.ntmps5
  by_cases h : ca = cb'
  · subst h
    have hb : ((ca : Int) != (ca : Int)) = false := by simp
    have HL := Hid.mk' (bytesLess_cb ka.toList kb.toList)
    go_wp2
    go_ret
    refine ⟨?_, rfl⟩
    show Ending.returned (.bool (Op.bytesLess ka.toList kb.toList)) = _
    rw [HL.out, toList_data, toList_data]
  · have hb : ((ca : Int) != (cb' : Int)) = true := by simp; omega
    have HD : Hid (decide (ca < cb' ∨ (ca = cb' ∧ cb ka.data.toList kb.data.toList < 0)) = decide (ca < cb')) := by
      show _ = _
      simp [h]
    go_wp2
    go_ret
    refine ⟨?_, rfl⟩
    rw [HD.out]
    rfl

end Go.Proofs.YbonekuxeGreat
