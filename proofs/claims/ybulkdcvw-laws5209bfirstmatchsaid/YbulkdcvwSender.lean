/-
  'senderEntry' walked: the first member whose name is the message's sender.
-/
import Derived.Test.YbulkdcvwProg
import Derived.Test.YbulkdcvwAid
namespace Go.Proofs.Ybulkdcvw
open Go.RowKit Go.Deep Go.Proofs.Ybulkdcvw.Aid

/-- cell c of member i -/
def mcell (S : Nat → ByteArray) (G St : Nat → Nat) (j : Nat) : Value :=
  if j % 9 = 0 then .string (S (j / 9)) else if j % 9 = 1 then .int .u64 0 else if j % 9 = 2 then .int .u64 0 else if j % 9 = 3 then .pointer none else if j % 9 = 4 then .int .u16 0
  else if j % 9 = 5 then .int .u8 (St (j / 9)) else if j % 9 = 6 then .int .u64 (G (j / 9)) else if j % 9 = 7 then .int .u64 ((j / 9 : Nat) : Int) else .string ByteArray.empty

def member (s : ByteArray) (st g v : Nat) : Value := .agg #[.string s, .int .u64 0, .int .u64 0, .pointer none, .int .u16 0, .int .u8 st, .int .u64 g, .int .u64 v, .string ByteArray.empty]

def msg (ping F : ByteArray) (ms : Value) : Value :=
  .agg #[.string ping, .int .u64 0, .string F, .string ByteArray.empty, .int .u64 0, .int .u64 0, .pointer none, .int .u16 0, .string ByteArray.empty, .int .i64 0, .int .u64 0, .int .u64 0, .pointer none, .int .u16 0, .pointer none, .pointer none, .int .u64 0, .int .u64 0, ms, .slice none 0 0]

theorem mcell_0 {o : Option Value} {S : Nat → ByteArray} {G St : Nat → Nat} {k : Nat} (h : o = some (mcell S G St (k * 9))) : o = some (.string (S k)) := by
  rw [h]; unfold mcell; simp; try omega
theorem mcell_1 {o : Option Value} {S : Nat → ByteArray} {G St : Nat → Nat} {k : Nat} (h : o = some (mcell S G St (k * 9 + 1))) : o = some (.int .u64 0) := by
  rw [h]; unfold mcell; simp; try omega
theorem mcell_2 {o : Option Value} {S : Nat → ByteArray} {G St : Nat → Nat} {k : Nat} (h : o = some (mcell S G St (k * 9 + 2))) : o = some (.int .u64 0) := by
  rw [h]; unfold mcell; simp; try omega
theorem mcell_3 {o : Option Value} {S : Nat → ByteArray} {G St : Nat → Nat} {k : Nat} (h : o = some (mcell S G St (k * 9 + 3))) : o = some (.pointer none) := by
  rw [h]; unfold mcell; simp; try omega
theorem mcell_4 {o : Option Value} {S : Nat → ByteArray} {G St : Nat → Nat} {k : Nat} (h : o = some (mcell S G St (k * 9 + 4))) : o = some (.int .u16 0) := by
  rw [h]; unfold mcell; simp; try omega
theorem div9 (k c : Nat) (hc : c < 9) : (k * 9 + c) / 9 = k := by omega
theorem mcell_5 {o : Option Value} {S : Nat → ByteArray} {G St : Nat → Nat} {k : Nat} (h : o = some (mcell S G St (k * 9 + 5))) : o = some (.int .u8 (St k)) := by
  rw [h]; unfold mcell; simp [div9 k 5]
theorem mcell_6 {o : Option Value} {S : Nat → ByteArray} {G St : Nat → Nat} {k : Nat} (h : o = some (mcell S G St (k * 9 + 6))) : o = some (.int .u64 (G k)) := by
  rw [h]; unfold mcell; simp [div9 k 6]
theorem mcell_7 {o : Option Value} {S : Nat → ByteArray} {G St : Nat → Nat} {k : Nat} (h : o = some (mcell S G St (k * 9 + 7))) : o = some (.int .u64 k) := by
  rw [h]; unfold mcell; simp; try omega
theorem mcell_8 {o : Option Value} {S : Nat → ByteArray} {G St : Nat → Nat} {k : Nat} (h : o = some (mcell S G St (k * 9 + 8))) : o = some (.string ByteArray.empty) := by
  rw [h]; unfold mcell; simp; try omega

theorem row_any (c : Array Value) : ∀ i, i < c.size → c[i]? = some c[i]! := fun i hi => by simp [hi]

set_option maxRecDepth 100000 in
theorem results5 (tmps : Array Value) (W : World) (B : Nat) (b : Bool) (f : Nat → Value) (h2 : tmps[2]?.getD undef = .pointer (some ⟨B, 0, none⟩)) (h3 : tmps[3]?.getD undef = .bool b) (hr : W.rowIs B 42 9 f) :
    (results Yba.f5 tmps).run Yba.prog W = .ok (.tuple #[.agg #[f 0, f 1, f 2, f 3, f 4, f 5, f 6, f 7, f 8], .bool b]) W := by
  have q0 := hr.cell (i := 0) (by omega)
  have q1 := hr.cell (i := 1) (by omega)
  have q2 := hr.cell (i := 2) (by omega)
  have q3 := hr.cell (i := 3) (by omega)
  have q4 := hr.cell (i := 4) (by omega)
  have q5 := hr.cell (i := 5) (by omega)
  have q6 := hr.cell (i := 6) (by omega)
  have q7 := hr.cell (i := 7) (by omega)
  have q8 := hr.cell (i := 8) (by omega)
  simp [results, Yba.results5, go_sem, h2, h3, q0, q1, q2, q3, q4, q5, q6, q7, q8]

set_option maxRecDepth 100000 in
set_option maxHeartbeats 1000000 in
theorem sender_any (n g : Nat) (S : Nat → ByteArray) (G St : Nat → Nat) (ping F : ByteArray) (w : World) (hn : n ≤ 1024) (hrow : w.rowIs g 42 (n * 9) (mcell S G St)) :
    Calls Yba.prog 5 #[msg ping F (.slice (some ⟨g, 0, none⟩) n n)] w fun e w' => ((∃ j, j < n ∧ ((S j).toList == F.toList) = true ∧ (∀ i, i < j → ((S i).toList == F.toList) = false) ∧ e = .returned (.tuple #[member (S j) (St j) (G j) j, .bool true])) ∨
      (∀ i, i < n → ((S i).toList == F.toList) = false) ∧ e = .returned (.tuple #[member ByteArray.empty 0 0 0, .bool false])) ∧ Below w.heap.size w w' := by
  unfold msg
  go_enter Yba.func5, Yba.ntmps5
  go_wp2
  go_loopw [9] (fun i wr => ∃ k : Nat, k ≤ n ∧ i = .int .i64 k ∧ (∀ i, i < k → ((S i).toList == F.toList) = false) ∧ wr.cell? ⟨w.heap.size, 2, none⟩ = some (.string F) ∧ (∃ f, wr.rowIs (w.heap.size + 1) 42 9 f) ∧ w.heap.size + 1 < wr.heap.size ∧ Below w.heap.size w wr) (fun i _ => n - (intOf i).toNat)
  case atStart =>
    refine ⟨0, Nat.zero_le _, rfl, fun i hi => by omega, ?_, ?_, ?_, ?_⟩
    · simp
    · have := World.rowIs_alloc (w.alloc (Obj.cells #[.string ping, .int .u64 0, .string F, .string ByteArray.empty, .int .u64 0, .int .u64 0, .pointer none, .int .u16 0, .string ByteArray.empty, .int .i64 0, .int .u64 0, .int .u64 0, .pointer none, .int .u16 0, .pointer none, .pointer none, .int .u64 0, .int .u64 0, .slice (some ⟨g, 0, none⟩) n n, .slice none 0 0] 47)) #[.string ByteArray.empty, .int .u64 0, .int .u64 0, .pointer none, .int .u16 0, .int .u8 0, .int .u64 0, .int .u64 0, .string ByteArray.empty] 42 _ (row_any _)
      simp at this
      exact ⟨_, this⟩
    · simp
    · exact ((Below.refl _ _).alloc (Nat.le_refl _) _).alloc (by simp) _
  case round =>
    obtain ⟨k, hkn, rfl, hne, hF, ⟨f, hres⟩, hsz1, hnx⟩ := hrel
    have HNE := Hid.mk' hne
    have hsz0 : w.heap.size < wr.heap.size := by omega
    have hsz2 : w.heap.size ≠ wr.heap.size := by omega
    have hsz3 : w.heap.size + 1 ≠ wr.heap.size := by omega
    clear hne
    have r0 := hres.cell (i := 0) (by omega)
    have z0 := hres.frozen 0
    have r1 := hres.cell (i := 1) (by omega)
    have z1 := hres.frozen 1
    have r2 := hres.cell (i := 2) (by omega)
    have z2 := hres.frozen 2
    have r3 := hres.cell (i := 3) (by omega)
    have z3 := hres.frozen 3
    have r4 := hres.cell (i := 4) (by omega)
    have z4 := hres.frozen 4
    have r5 := hres.cell (i := 5) (by omega)
    have z5 := hres.frozen 5
    have r6 := hres.cell (i := 6) (by omega)
    have z6 := hres.frozen 6
    have r7 := hres.cell (i := 7) (by omega)
    have z7 := hres.frozen 7
    have r8 := hres.cell (i := 8) (by omega)
    have z8 := hres.frozen 8
    by_cases hlt : k < n
    · have hg : g < w.heap.size := hrow.lt
      have m0 : wr.cell? ⟨g, k * 9, none⟩ = some (.string (S k)) := (hnx.cell (by exact hg)).trans (mcell_0 (hrow.cell (by omega)))
      have m1 : wr.cell? ⟨g, k * 9 + 1, none⟩ = some (.int .u64 0) := (hnx.cell (by exact hg)).trans (mcell_1 (hrow.cell (by omega)))
      have m2 : wr.cell? ⟨g, k * 9 + 2, none⟩ = some (.int .u64 0) := (hnx.cell (by exact hg)).trans (mcell_2 (hrow.cell (by omega)))
      have m3 : wr.cell? ⟨g, k * 9 + 3, none⟩ = some (.pointer none) := (hnx.cell (by exact hg)).trans (mcell_3 (hrow.cell (by omega)))
      have m4 : wr.cell? ⟨g, k * 9 + 4, none⟩ = some (.int .u16 0) := (hnx.cell (by exact hg)).trans (mcell_4 (hrow.cell (by omega)))
      have m5 : wr.cell? ⟨g, k * 9 + 5, none⟩ = some (.int .u8 (St k)) := (hnx.cell (by exact hg)).trans (mcell_5 (hrow.cell (by omega)))
      have m6 : wr.cell? ⟨g, k * 9 + 6, none⟩ = some (.int .u64 (G k)) := (hnx.cell (by exact hg)).trans (mcell_6 (hrow.cell (by omega)))
      have m7 : wr.cell? ⟨g, k * 9 + 7, none⟩ = some (.int .u64 k) := (hnx.cell (by exact hg)).trans (mcell_7 (hrow.cell (by omega)))
      have m8 : wr.cell? ⟨g, k * 9 + 8, none⟩ = some (.string ByteArray.empty) := (hnx.cell (by exact hg)).trans (mcell_8 (hrow.cell (by omega)))
      have hg2 : g < wr.heap.size := by omega
      by_cases he : ((S k).toList == F.toList) = true
      · clear hrow
        go_wp2
        have hW := (((((((((hres.set 0 (.string (S k))).set 1 (.int .u64 0)).set 2 (.int .u64 0)).set 3 (.pointer none)).set 4 (.int .u16 0)).set 5 (.int .u8 (St k))).set 6 (.int .u64 (G k))).set 7 (.int .u64 k)).set 8 (.string ByteArray.empty)).alloc
          (Obj.cells #[.string (S k), .int .u64 0, .int .u64 0, .pointer none, .int .u16 0, .int .u8 (St k), .int .u64 (G k), .int .u64 k, .string ByteArray.empty] 42)
        refine bodyPost_ret (v := .tuple #[member (S k) (St k) (G k) k, .bool true]) (results5 _ _ _ true _ rfl rfl hW) rfl ⟨.inl ⟨k, hlt, he, HNE.out, rfl⟩, ?_⟩
        refine Below.alloc ?_ (by simp; omega) _
        repeat (refine Below.setCell ?_ (Nat.le_succ _) _)
        exact hnx
      · have he' : ((S k).toList == F.toList) = false := by simpa using he
        clear he
        go_wp2
        go_roundw
        case rel => 
          refine ⟨k + 1, by omega, by go_num, fun i hi => ?_, ?_, ⟨f, hres.alloc _⟩, ?_, hnx.alloc hnx.size _⟩
          · by_cases hik : i = k
            · rw [hik]; exact he'
            · exact HNE.out i (by omega)
          · rw [World.cell?_of_block (w := wr) (Below.heap_alloc _ _ _ hsz0)]; exact hF
          · simp; omega
        case measure => simp [intOf]; omega
    · obtain rfl : k = n := by omega
      go_wp2
      have hW := ((((((((hres.set 0 (.string ByteArray.empty)).set 1 (.int .u64 0)).set 2 (.int .u64 0)).set 3 (.pointer none)).set 4 (.int .u16 0)).set 5 (.int .u8 0)).set 6 (.int .u64 0)).set 7 (.int .u64 0)).set 8 (.string ByteArray.empty)
      refine bodyPost_ret (v := .tuple #[member ByteArray.empty 0 0 0, .bool false]) (results5 _ _ _ false _ rfl rfl hW) rfl ⟨.inr ⟨HNE.out, rfl⟩, ?_⟩
      repeat (refine Below.setCell ?_ (Nat.le_succ _) _)
      exact hnx

end Go.Proofs.Ybulkdcvw
