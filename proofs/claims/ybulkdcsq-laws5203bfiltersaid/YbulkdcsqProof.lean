/-
  The row: 'LawS5203BFilterSaid'.
-/
import Derived.Test.YbulkdcsqRows
import Derived.Test.YbulkdcsqLaw
import Derived.ProofKit
import Derived.OpenShut
import Derived.ChangeOld
import Derived.Deep.SlicePairs
namespace Go.Proofs.Ybulkdcsq
open Go.ChangeShapes Go.WideShapes Go.ChangeAt Go.RowKit Go.Deep

theorem own : ownKnob Yba.prog.godebug = none := by kernel_rfl
theorem laidOut : laidOutB Yba.prog = true := by kernel_rfl

/-- What the walk is told of the slice that came in. -/
def IsBinds (w : World) (a : Option Addr) (len : Nat) : Prop :=
  len = 0 ∨ ∃ (b off : Nat) (C K : Nat → Int), a = some ⟨b, off, none⟩ ∧ 0 < len ∧ (∀ i, i < len → 0 ≤ K i ∧ K i ≤ 255) ∧
    (∀ i, i < len → w.cell? ⟨b, off + i * 2, none⟩ = some (.int .i64 (C i))) ∧ (∀ i, i < len → w.cell? ⟨b, off + i * 2 + 1, none⟩ = some (.int .u8 (K i)))

theorem walk (a0 : Option Addr) (len0 cap0 : Nat) (id : Int) (w : World) (h : IsBinds w a0 len0) :
    Calls Yba.prog 3 #[.slice a0 len0 cap0, .int .i64 id] w fun e w' => e = .returned (.bool true) ∧ Below w.heap.size w w' := by
  rcases h with rfl | ⟨b, off, C, K, rfl, h0, hk, hc0, hc1⟩
  · exact law_zero a0 cap0 id w
  · exact law_pos b off len0 cap0 C K id w h0 hk hc0 hc1

set_option maxRecDepth 100000 in
theorem lifted (os : Os) (started : os.Started) (H : Type) (enc : TypeId × Value → H) :
    ReturnsInHanded {} Yba.checked os 3 .any (Rows.lawS5203BFilterSpec.pre6 enc Yba.prog Yba.f3 Rows.lawS5203BFilterRow.domain false) (Rows.lawS5203BFilterSpec.post enc Yba.prog Yba.f3 false true false false) := by
  refine returnsInHanded_of_change (C := Yba.checked) own started (by kernel_rfl) Yba.func3
    (ChangeSpec.witness6 (enc := enc) (C := Yba.checked) false ⟨#[], #[.slice none 0 0, .int .i64 0], []⟩ 8 (by kernel_rfl) (by kernel_rfl) (by kernel_rfl) (by kernel_rfl)) ?_
  intro W base args ds gs before hval0 hW hcnd _
  have hval : ∀ (j : Nat) t v, Yba.f3.params[j]? = some t → args[j]? = some v → Value.okWide Yba.prog W .any base t v := hval0
  have hW' := hW
  obtain ⟨p, q, hA0, hV, rfl, hfz, hnd⟩ := hW
  have hA : DataW.TrodAll enc Yba.prog W 0 (fun _ => true) true Yba.f3.params.toList args.toList ds p := hA0
  rw [Yba.params3] at hA hval
  obtain ⟨v0, vs0, d0, ds0, p0, q0, hargs, rfl, rfl, h0, r0⟩ := trodAll_cons hA
  obtain ⟨v1, vs1, d1, ds1, p1, q1, rfl, rfl, rfl, h1, r1⟩ := trodAll_cons r0
  obtain ⟨rfl, rfl, rfl⟩ := trodAll_nil r1
  obtain rfl : args = #[v0, v1] := by cases args; simp_all
  obtain ⟨rfl, rfl⟩ := trodVars_none hV
  obtain ⟨a0, len0, cap0, rfl⟩ := okWide_slice Yba.underlying22 (hval 0 22 v0 rfl rfl)
  have k0 := h0
  have lt0 : ∀ x ∈ p0, x.block < W.heap.size := by obtain ⟨m, hm⟩ := k0; exact DataW.trod_lt m _ _ _ hm
  have w0 : IsBinds W a0 len0 := by
    obtain ⟨fuel, hf⟩ := h0
    rcases open_slice_pairs Yba.underlying22 Yba.underlying32 (by kernel_rfl) rfl rfl (by kernel_rfl) (by kernel_rfl) hf with ⟨hcs, _⟩ | ⟨a, len, cap, m, n, V0, V1, D0, D1, P0, P1, hcs, _, hl, hm, hmm, _, hx⟩
    · simp [Value.cells] at hcs
      exact .inl hcs.2.1
    · simp [Value.cells] at hcs
      obtain ⟨rfl, rfl, rfl⟩ := hcs
      simp only [if_true] at hmm
      by_cases hz : len0 = 0
      · exact .inl hz
      · right
        have c0 := (hx 0 (by omega)).1
        obtain ⟨b, off, spot⟩ := a
        have hsp : spot = none := by simpa [Addr.add] using World.cell?_spot c0
        subst hsp
        refine ⟨b, off, fun i => intOf (V0 i), fun i => intOf (V1 i), rfl, by omega, fun i hi => ?_, fun i hi => ?_, fun i hi => ?_⟩
        · obtain ⟨_, _, _, t1⟩ := hx i (by omega)
          obtain ⟨x, e1, _, w1⟩ := DataW.trod_int Yba.underlying5 t1
          simp at e1
          show 0 ≤ intOf (V1 i) ∧ intOf (V1 i) ≤ 255
          rw [e1]
          exact bounds_u8 w1
        · obtain ⟨g, _, t0, _⟩ := hx i (by omega)
          obtain ⟨x, e1, _, _⟩ := DataW.trod_int Yba.underlying3 t0
          simp at e1
          rw [add_plain] at g
          show _ = some (Value.int .i64 (intOf (V0 i)))
          rw [g, e1]; rfl
        · obtain ⟨_, g, _, t1⟩ := hx i (by omega)
          obtain ⟨x, e1, _, _⟩ := DataW.trod_int Yba.underlying5 t1
          simp at e1
          rw [add_plain, ← Nat.add_assoc] at g
          show _ = some (Value.int .u8 (intOf (V1 i)))
          rw [g, e1]; rfl
  obtain ⟨a1, rfl, rfl, rfl, w1⟩ := open_int Yba.underlying3 (hval 1 3 v1 rfl rfl) h1
  clear hA0 hval0
  refine (walk a0 len0 cap0 a1 W w0).mono fun e W' ⟨he, bel⟩ => ?_
  subst he
  exact ⟨_, rfl, _, _, _, [], _, [], hW', trodAll_mk1 (shut_bool Yba.underlying4 _), (trodAll_cons_mk (Below.trod laidOut (by kernel_rfl) (of_decide_eq_true (by kernel_rfl)) k0 bel lt0) (trodAll_cons_mk (shut_int Yba.underlying3 w1) trodAll_mk0)), rfl, bel.frame _, fun h => by cases h⟩

theorem over : Rows.lawS5203BFilterRow.holds Yba.pinned (OpenSpec.ofChange Rows.lawS5203BFilterSpec) :=
  OpenClaim.holds_of_wide 3 Yba.f3 rfl rfl rfl rfl rfl rfl rfl ⟨rfl, rfl, rfl, rfl, rfl⟩ rfl rfl rfl rfl rfl (by kernel_rfl) Yba.func3 (by kernel_rfl)
    (of_decide_eq_true (by kernel_rfl)) (by unfold Func.isWrapper; first | (rw [if_pos (by decide +kernel)]; kernel_rfl) | (rw [if_neg (by decide +kernel)]; exact ⟨rfl, rfl⟩))
    (fun os started H enc _ => lifted os started H enc)

theorem filter_proved : Rows.LawS5203BFilterSaid := over

end Go.Proofs.Ybulkdcsq
