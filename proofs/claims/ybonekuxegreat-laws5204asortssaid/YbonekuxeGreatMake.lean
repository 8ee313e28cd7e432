/-
  The rows of objects; the build loop's state.
-/
import Derived.Test.YbonekuxeGreatCopy
namespace Go.Proofs.YbonekuxeGreat
open Go.RowKit Go.Deep Go.Proofs.YbonekuxeGreat.Plain

theorem info33 : (Ybgs.prog.info? 33).map (fun i => (i.zero, i.size, i.bytes)) = some (some (.agg #[.nilIface, .string ByteArray.empty, .nilIface]), 3, 48) := by kernel_rfl
theorem info5 : (Ybgs.prog.info? 5).map (fun i => (i.zero, i.size, i.bytes)) = some (some (.int .u8 0), 1, 1) := by kernel_rfl
theorem size5 : (Ybgs.prog.info? 5).map (·.size) = some 1 := by kernel_rfl
theorem size41 : (Ybgs.prog.info? 41).map (·.size) = some 5 := by kernel_rfl
theorem run_build33 (k : ByteArray) (w : World) : (Instr.build 33 #[(1, .string k)]).run Ybgs.prog w = .ok (.agg #[.nilIface, .string k, .nilIface]) w := by kernel_rfl

def orow (n : Nat) : Array Value := madeCells #[.nilIface, .string ByteArray.empty, .nilIface] (n * 3)

theorem orow_is (w : World) (n : Nat) : ∃ f, (w.alloc (.cells (orow n) 33)).rowIs w.heap.size 33 (n * 3) f :=
  ⟨fun i => #[Value.nilIface, .string ByteArray.empty, .nilIface][i % 3]!, orow n, heap_alloc_last w _, size_madeCells _ _, fun i hi => by simp [orow, madeCells, hi]⟩

theorem make_objs (n : Nat) (hn : n ≤ 1000000) (w : World) :
    (Instr.makeSlice 26 (.int .i64 n) (.int .i64 n)).run Ybgs.prog w = .ok (.slice (some ⟨w.heap.size, 0, none⟩) n n) (w.alloc (.cells (orow n) 33)) := by
  obtain ⟨i0, hi, hz0, hz1, hz2⟩ := info_parts info33
  have hmk := run_make (P := Ybgs.prog) w 26 33 i0 _ Ybgs.underlying26 hi hz0 .i64 .i64 n n (by omega) (Int.le_refl _) (by rw [hz2]; omega) (by omega)
  simp only [hz1, Int.toNat_natCast] at hmk
  exact hmk

/-- the state that item i makes -/
def elOf (key : Nat → ByteArray) (Cd : Nat → Nat) (i : Nat) : El := ⟨hdN 8 (key i).data.toList, i, Cd i, decide (8 < (key i).data.toList.length)⟩

/-- what stands while the items are turned to states -/
structure Bl (w W : World) (Ob Sb Rb n k : Nat) (key : Nat → ByteArray) (Cd : Nat → Nat) : Prop where
  ro : ∃ f, W.rowIs Ob 33 (n * 3) f ∧ ∀ j, j < k → f (j * 3 + 1) = .string (key j)
  rs : ∃ d, W.rowIs Sb 41 (n * 5) (rc d) ∧ ∀ j, j < k → d j = elOf key Cd j
  rr : ∃ d, W.rowIs Rb 41 (n * 5) (rc d) ∧ ∀ j, j < k → d j = elOf key Cd j
  gr : w.grownBy W none
  oO : w.heap.size ≤ Ob
  oS : w.heap.size ≤ Sb
  oR : w.heap.size ≤ Rb
  os : Ob ≠ Sb
  oRb : Ob ≠ Rb
  sr : Sb ≠ Rb

theorem Bl.more {w W W' : World} {Ob Sb Rb n k : Nat} {key : Nat → ByteArray} {Cd : Nat → Nat} {row : Option Nat} (h : Bl w W Ob Sb Rb n k key Cd) (hg : W.grownBy W' row) (hr : ∀ b, row = some b → w.heap.size ≤ b ∧ b ≠ Ob ∧ b ≠ Sb ∧ b ≠ Rb) : Bl w W' Ob Sb Rb n k key Cd := by
  obtain ⟨f, hf, hf2⟩ := h.ro
  obtain ⟨d, hd, hd2⟩ := h.rs
  obtain ⟨e, he, he2⟩ := h.rr
  refine ⟨⟨f, row_stay hf hg (fun e => (hr _ e.symm).2.1 rfl), hf2⟩, ⟨d, row_stay hd hg (fun e => (hr _ e.symm).2.2.1 rfl), hd2⟩, ⟨e, row_stay he hg (fun e => (hr _ e.symm).2.2.2 rfl), he2⟩, ?_, h.oO, h.oS, h.oR, h.os, h.oRb, h.sr⟩
  exact ⟨hg.os.trans h.gr.os, hg.tape.trans h.gr.tape, hg.output.trans h.gr.output, Nat.le_trans h.gr.size hg.size, fun q hq hne => (hg.block q (Nat.lt_of_lt_of_le hq h.gr.size) (fun e => by have := (hr _ e.symm).1; omega)).trans (h.gr.block q hq hne)⟩

/-- the object laid -/
theorem Bl.obj {w W : World} {Ob Sb Rb n k : Nat} {key : Nat → ByteArray} {Cd : Nat → Nat} (h : Bl w W Ob Sb Rb n k key Cd) {K : Nat} (hK : k * 3 = K) :
    Bl w (((W.setCell ⟨Ob, K, none⟩ .nilIface).setCell ⟨Ob, K + 1, none⟩ (.string (key k))).setCell ⟨Ob, K + 2, none⟩ .nilIface) Ob Sb Rb n k key Cd ∧
    ∃ f, (((W.setCell ⟨Ob, K, none⟩ .nilIface).setCell ⟨Ob, K + 1, none⟩ (.string (key k))).setCell ⟨Ob, K + 2, none⟩ .nilIface).rowIs Ob 33 (n * 3) f ∧ ∀ j, j < k + 1 → f (j * 3 + 1) = .string (key j) := by
  subst hK
  obtain ⟨f, hf, hf2⟩ := h.ro
  obtain ⟨d, hd, hd2⟩ := h.rs
  obtain ⟨e, he, he2⟩ := h.rr
  have hrow := ((hf.set (k * 3) .nilIface).set (k * 3 + 1) (.string (key k))).set (k * 3 + 2) .nilIface
  have hval : ∀ j, j < k + 1 → (if j * 3 + 1 = k * 3 + 2 then Value.nilIface else if j * 3 + 1 = k * 3 + 1 then .string (key k) else if j * 3 + 1 = k * 3 then .nilIface else f (j * 3 + 1)) = .string (key j) := fun j hj => by
    rw [if_neg (by omega)]
    by_cases hjk : j = k
    · rw [if_pos (by omega), hjk]
    · rw [if_neg (by omega), if_neg (by omega)]; exact hf2 j (by omega)
  refine ⟨⟨⟨_, hrow, fun j hj => hval j (by omega)⟩, ⟨d, row_far (row_far (row_far hd Ob _ _ h.os.symm) Ob _ _ h.os.symm) Ob _ _ h.os.symm, hd2⟩, ⟨e, row_far (row_far (row_far he Ob _ _ h.oRb.symm) Ob _ _ h.oRb.symm) Ob _ _ h.oRb.symm, he2⟩, grown_new (grown_new (grown_new h.gr Ob _ _ h.oO) Ob _ _ h.oO) Ob _ _ h.oO, h.oO, h.oS, h.oR, h.os, h.oRb, h.sr⟩, _, hrow, hval⟩

/-- the state laid into both rows -/
theorem Bl.next {w W : World} {Ob Sb Rb n k : Nat} {key : Nat → ByteArray} {Cd : Nat → Nat} (h : Bl w W Ob Sb Rb n k key Cd) (hro : ∃ f, W.rowIs Ob 33 (n * 3) f ∧ ∀ j, j < k + 1 → f (j * 3 + 1) = .string (key j)) {x : El} (hx : x = elOf key Cd k) {K : Nat} (hK : k * 5 = K) :
    Bl w ((((((((((W.setCell ⟨Sb, K, none⟩ (.int .u64 x.h)).setCell ⟨Sb, K + 1, none⟩ (.int .u32 0)).setCell ⟨Sb, K + 2, none⟩ (.int .u32 x.i)).setCell ⟨Sb, K + 3, none⟩ (.int .u8 x.c)).setCell ⟨Sb, K + 4, none⟩ (.bool x.l)).setCell ⟨Rb, K, none⟩ (.int .u64 x.h)).setCell ⟨Rb, K + 1, none⟩ (.int .u32 0)).setCell ⟨Rb, K + 2, none⟩ (.int .u32 x.i)).setCell ⟨Rb, K + 3, none⟩ (.int .u8 x.c)).setCell ⟨Rb, K + 4, none⟩ (.bool x.l)) Ob Sb Rb n (k + 1) key Cd := by
  subst hK
  obtain ⟨f, hf, hf2⟩ := hro
  obtain ⟨d, hd, hd2⟩ := h.rs
  obtain ⟨e, he, he2⟩ := h.rr
  have far5 : ∀ {W : World} {g t N : Nat} {F : Nat → Value} (b K : Nat) (v0 v1 v2 v3 v4 : Value), W.rowIs g t N F → g ≠ b → (((((W.setCell ⟨b, K, none⟩ v0).setCell ⟨b, K + 1, none⟩ v1).setCell ⟨b, K + 2, none⟩ v2).setCell ⟨b, K + 3, none⟩ v3).setCell ⟨b, K + 4, none⟩ v4).rowIs g t N F :=
    fun b K v0 v1 v2 v3 v4 h hne => row_far (row_far (row_far (row_far (row_far h b _ _ hne) b _ _ hne) b _ _ hne) b _ _ hne) b _ _ hne
  have new5 : ∀ {W : World} (b K : Nat) (v0 v1 v2 v3 v4 : Value), w.grownBy W none → w.heap.size ≤ b → w.grownBy (((((W.setCell ⟨b, K, none⟩ v0).setCell ⟨b, K + 1, none⟩ v1).setCell ⟨b, K + 2, none⟩ v2).setCell ⟨b, K + 3, none⟩ v3).setCell ⟨b, K + 4, none⟩ v4) none :=
    fun b K v0 v1 v2 v3 v4 h hb => grown_new (grown_new (grown_new (grown_new (grown_new h b _ _ hb) b _ _ hb) b _ _ hb) b _ _ hb) b _ _ hb
  have put2 : ∀ (d : Nat → El), (∀ j, j < k → d j = elOf key Cd j) → ∀ j, j < k + 1 → put d k x j = elOf key Cd j := fun d hd j hj => by
    unfold put
    by_cases hjk : j = k
    · rw [if_pos hjk, hjk, hx]
    · rw [if_neg hjk]; exact hd j (by omega)
  exact ⟨⟨f, far5 Rb _ _ _ _ _ _ (far5 Sb _ _ _ _ _ _ hf h.os) h.oRb, hf2⟩, ⟨_, far5 Rb _ _ _ _ _ _ (row_put hd x) h.sr, put2 d hd2⟩, ⟨_, row_put (far5 Sb _ _ _ _ _ _ he h.sr.symm) x, put2 e he2⟩, new5 Rb _ _ _ _ _ _ (new5 Sb _ _ _ _ _ _ h.gr h.oS) h.oR, h.oO, h.oS, h.oR, h.os, h.oRb, h.sr⟩

end Go.Proofs.YbonekuxeGreat
