/-
  'probeNacked' walked.
-/
import Derived.Test.YbulkdcvwProg
import Derived.Test.YbulkdcvwAid
import Derived.Deep.QuietTactic
import Derived.BigQuiet
import Derived.Maps.OwnSet
namespace Go.Proofs.Ybulkdcvw
open Go.RowKit Go.Deep Go.Proofs.Ybulkdcvw.Aid

/-- the nack's message -/
def nmsg (s : Int) (F : ByteArray) : Value :=
  .agg #[.string ByteArray.empty, .int .u64 s, .string F, .string ByteArray.empty, .int .u64 0, .int .u64 0, .pointer none, .int .u16 0, .string ByteArray.empty, .int .i64 0, .int .u64 0, .int .u64 0, .pointer none, .int .u16 0, .pointer none, .pointer none, .int .u64 0, .int .u64 0, .slice none 0 0, .slice none 0 0]

theorem Yba.zero4 (w : World) : (zeroValue 4).run Yba.prog w = .ok (.bool false) w := by kernel_rfl

/-- a map of the call's own, as far as its block alone tells it -/
theorem ownsMap_block {H : Type} {P : Program} {k : TypeId} {R : Value → Option (DataW H × List MemPlace)} {w W : World} {b n : Nat} {D : DataW H} (h : w.ownsMap P k R b n D) (e : W.heap[b]? = w.heap[b]?) : W.ownsMap P k R b n D := by
  obtain ⟨es, clock, hb, r⟩ := h
  exact ⟨es, clock, e.trans hb, r⟩

set_option maxRecDepth 100000 in
theorem plainElem_bool_inv {H : Type} {v : Value} {z : DataW H × List MemPlace} (h : plainElem Yba.prog 4 v = some z) : ∃ x, v = .bool x ∧ z = (.lit (.bool x), []) := by
  unfold plainElem at h
  rw [Yba.underlying4] at h
  cases v <;> simp at h
  subst h
  exact ⟨_, rfl, rfl⟩

/-- the string as a key -/
def kl (s : ByteArray) : Lit := .string s.data.toList

abbrev OwnsB (w : World) (b n : Nat) (D : DataW Unit) : Prop := w.ownsMap Yba.prog 9 (plainElem Yba.prog 4) b n D

theorem key_of (s : ByteArray) (hs : s.size ≤ maxLen) : keyOf Yba.prog 9 (.string s) = some (kl s) := WideMaps.keyOf_string_mk Yba.underlying9 hs

/-- what a look-up finds: one bool, in every world that has the map's block -/
theorem look_bool {w : World} {b n : Nat} {D : DataW Unit} (h : OwnsB w b n D) (F : ByteArray) (hF : F.size ≤ maxLen) :
    ∃ x : Bool, D.atKey (kl F) (.lit (.bool false)) = .lit (.bool x) ∧ ∀ W : World, W.heap[b]? = w.heap[b]? → (Instr.lookup 53 (.map (some b)) (.string F) true).run Yba.prog W = .ok (.tuple #[.bool x, .bool (Maps.has D (kl F))]) W ∧
      (Instr.lookup 53 (.map (some b)) (.string F) false).run Yba.prog W = .ok (.bool x) W := by
  have K := Maps.string_keyed Yba.underlying9
  obtain ⟨v, ps, _, hv⟩ := h.look_ok K Yba.underlying53 (Yba.zero4 w) (plainElem_bool Yba.underlying4 false) (key_of F hF)
  obtain ⟨x, rfl, hx⟩ := plainElem_bool_inv hv
  simp only [Prod.mk.injEq] at hx
  refine ⟨x, hx.1, fun W hW => ?_⟩
  have h' := ownsMap_block h hW
  obtain ⟨v, ps, hrun, hv⟩ := h'.look_ok K Yba.underlying53 (Yba.zero4 W) (plainElem_bool Yba.underlying4 false) (key_of F hF)
  obtain ⟨y, rfl, hy⟩ := plainElem_bool_inv hv
  obtain ⟨v, ps2, hrun2, hv2⟩ := h'.lookup K Yba.underlying53 (Yba.zero4 W) (plainElem_bool Yba.underlying4 false) (key_of F hF)
  obtain ⟨y2, rfl, hy2⟩ := plainElem_bool_inv hv2
  simp only [Prod.mk.injEq] at hy hy2
  rw [hx.1] at hy hy2
  obtain rfl : x = y := by simpa using hy.1
  obtain rfl : x = y2 := by simpa using hy2.1
  exact ⟨hrun, hrun2⟩

set_option maxRecDepth 100000 in
set_option maxHeartbeats 400000 in
theorem nack_nil (nb : Nat) (s : Int) (F : ByteArray) (w : World) (hp : w.cell? ⟨nb, 38, none⟩ = some (.pointer none)) :
    Calls Yba.prog 6 #[.pointer (some ⟨nb, 0, none⟩), nmsg s F] w fun e w' => e = .returned (.tuple #[]) ∧ Below w.heap.size w w' := by
  have hb := World.block_lt_of_cell? w _ hp
  unfold nmsg
  go_enter Yba.func6, Yba.ntmps6
  go_wp2
  go_quiet (fail)
  go_wp2
  refine bodyPost_ret (results_none rfl _ _ _) rfl ?_
  exact ⟨rfl, below_drewN ((Below.refl _ _).alloc (Nat.le_refl _) _) _⟩

set_option maxRecDepth 100000 in
set_option maxHeartbeats 400000 in
theorem nack_other (nb pb : Nat) (s s0 : Int) (F : ByteArray) (w : World) (hp : w.cell? ⟨nb, 38, none⟩ = some (.pointer (some ⟨pb, 0, none⟩))) (hq : w.cell? ⟨pb, 9, none⟩ = some (.int .u64 s0)) (hne : (s0 == s) = false) :
    Calls Yba.prog 6 #[.pointer (some ⟨nb, 0, none⟩), nmsg s F] w fun e w' => e = .returned (.tuple #[]) ∧ Below w.heap.size w w' := by
  have hb := World.block_lt_of_cell? w _ hp
  have hb2 := World.block_lt_of_cell? w _ hq
  unfold nmsg
  go_enter Yba.func6, Yba.ntmps6
  go_wp2
  go_quiet (fail)
  go_wp2
  refine bodyPost_ret (results_none rfl _ _ _) rfl ?_
  exact ⟨rfl, below_drewN ((Below.refl _ _).alloc (Nat.le_refl _) _) _⟩

set_option maxRecDepth 100000 in
set_option maxHeartbeats 400000 in
theorem nack_same (nb pb mb n : Nat) (s : Int) (F : ByteArray) (D : DataW Unit) (w : World) (hp : w.cell? ⟨nb, 38, none⟩ = some (.pointer (some ⟨pb, 0, none⟩))) (hq : w.cell? ⟨pb, 9, none⟩ = some (.int .u64 s)) (hm : w.cell? ⟨pb, 23, none⟩ = some (.map (some mb)))
    (hown : OwnsB w mb n D) (hF : F.size ≤ maxLen) (hn : n < maxLen) :
    Calls Yba.prog 6 #[.pointer (some ⟨nb, 0, none⟩), nmsg s F] w fun e w' => e = .returned (.tuple #[]) ∧ OwnsB w' mb (n + 1) (if Maps.has D (kl F) then D.put (kl F) (.lit (.bool true)) else D) ∧ w.grownBy w' (some mb) := by
  have hb := World.block_lt_of_cell? w _ hp
  have hb2 := World.block_lt_of_cell? w _ hq
  have hhl := hown.lt
  obtain ⟨x, _, hlk⟩ := look_bool hown F hF
  have hlk1 : ∀ (o : Obj) (nq : Nat), (Instr.lookup 53 (.map (some mb)) (.string F) true).run Yba.prog ((w.alloc o).drewN nq) = .ok (.tuple #[.bool x, .bool (Maps.has D (kl F))]) ((w.alloc o).drewN nq) := fun o nq => (hlk ((w.alloc o).drewN nq) (Below.heap_alloc w o mb hhl)).1
  clear hlk
  unfold nmsg
  cases hh : Maps.has D (kl F) with
  | false =>
    rw [hh] at hlk1
    go_enter Yba.func6, Yba.ntmps6
    go_wp2
    go_quiet (fail)
    go_wp2
    go_quiet (fail)
    go_wp2
    refine bodyPost_end (results_none rfl _ _ _) rfl ?_
    refine ⟨rfl, ?_, ?_⟩
    · exact ownsMap_block (hown.mono (Nat.le_succ _)) (Below.heap_alloc w _ mb hhl)
    · exact ⟨rfl, rfl, rfl, by simp, fun k hk _ => Below.heap_alloc w _ k hk⟩
  | true =>
    rw [hh] at hlk1
    go_enter Yba.func6, Yba.ntmps6
    go_wp2
    go_quiet (fail)
    obtain ⟨nq1, rfl⟩ : ∃ q : Nat, q = nq := ⟨_, rfl⟩
    go_wp2
    go_quiet (fail)
    go_wp2
    have f2 : (w.alloc (Obj.cells #[.string ByteArray.empty, .int .u64 s, .string F, .string ByteArray.empty, .int .u64 0, .int .u64 0, .pointer none, .int .u16 0, .string ByteArray.empty, .int .i64 0, .int .u64 0, .int .u64 0, .pointer none, .int .u16 0, .pointer none, .pointer none, .int .u64 0, .int .u64 0, .slice none 0 0, .slice none 0 0] 47)).cell? ⟨w.heap.size, 2, none⟩ = some (.string F) := by simp
    have hB : Below w.heap.size w (((w.alloc (Obj.cells #[.string ByteArray.empty, .int .u64 s, .string F, .string ByteArray.empty, .int .u64 0, .int .u64 0, .pointer none, .int .u16 0, .string ByteArray.empty, .int .i64 0, .int .u64 0, .int .u64 0, .pointer none, .int .u16 0, .pointer none, .pointer none, .int .u64 0, .int .u64 0, .slice none 0 0, .slice none 0 0] 47)).drewN nq1).drewN nq) := below_drewN (below_drewN ((Below.refl _ _).alloc (Nat.le_refl _) _) _) _
    have f3 : (((w.alloc (Obj.cells #[.string ByteArray.empty, .int .u64 s, .string F, .string ByteArray.empty, .int .u64 0, .int .u64 0, .pointer none, .int .u16 0, .string ByteArray.empty, .int .i64 0, .int .u64 0, .int .u64 0, .pointer none, .int .u16 0, .pointer none, .pointer none, .int .u64 0, .int .u64 0, .slice none 0 0, .slice none 0 0] 47)).drewN nq1).drewN nq).cell? ⟨w.heap.size, 2, none⟩ = some (.string F) := f2
    generalize (((w.alloc (Obj.cells #[.string ByteArray.empty, .int .u64 s, .string F, .string ByteArray.empty, .int .u64 0, .int .u64 0, .pointer none, .int .u16 0, .string ByteArray.empty, .int .i64 0, .int .u64 0, .int .u64 0, .pointer none, .int .u16 0, .pointer none, .pointer none, .int .u64 0, .int .u64 0, .slice none 0 0, .slice none 0 0] 47)).drewN nq1).drewN nq) = W at *
    have hp' := (hB.cell (p := ⟨nb, 38, none⟩) hb).trans hp
    have hq' := (hB.cell (p := ⟨pb, 9, none⟩) hb2).trans hq
    have hm' := (hB.cell (p := ⟨pb, 23, none⟩) hb2).trans hm
    have hown' : OwnsB W.drew mb n D := ownsMap_block hown (hB.block mb hhl)
    obtain ⟨w2, hup, hown2, hgr⟩ := hown'.update (Maps.string_keyed Yba.underlying9) Yba.underlying53 hn (key_of F hF) (plainElem_bool Yba.underlying4 true)
    have HO := Hid.mk' hown2
    have HG := Hid.mk' hgr
    clear hown2 hgr hown' hlk1 f2
    go_region
    all_goals go_wp2
    all_goals refine bodyPost_end (results_none rfl _ _ _) rfl ?_
    all_goals refine ⟨rfl, HO.out, ?_⟩
    all_goals exact ⟨HG.out.os.trans hB.os, HG.out.tape.trans hB.tape, HG.out.output.trans hB.output, Nat.le_trans hB.size HG.out.size, fun k hk hne => (HG.out.block k (Nat.lt_of_lt_of_le hk hB.size) hne).trans (hB.block k hk)⟩

end Go.Proofs.Ybulkdcvw
