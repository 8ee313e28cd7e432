/-
  The row: 'LawS5204ASortsSaid'.
-/
import Derived.Test.YbonekuxeGreatRows
import Derived.Test.YbonekuxeGreatLaw
import Derived.ProofKit
import Derived.OpenShut
import Derived.ShutString
import Derived.ChangeOld
import Derived.Below
import Derived.Deep.Slices
import Derived.Deep.Strs
namespace Go.Proofs.YbonekuxeGreat
open Go.ChangeShapes Go.WideShapes Go.ChangeAt Go.RowKit Go.Deep

theorem own : ownKnob Ybgs.prog.godebug = none := by kernel_rfl
theorem laidOut : laidOutB Ybgs.prog = true := by kernel_rfl

/-- What is read of one item. -/
def IsOne (w : World) (b off i : Nat) (cd : Nat) (lg : Bool) (ka : Option Addr) (kl kc : Nat) (bv : Nat → Nat) : Prop :=
  (w.cell? ⟨b, off + i * 3, none⟩ = some (.int .u8 cd) ∧ w.cell? ⟨b, off + i * 3 + 1, none⟩ = some (.bool lg) ∧ w.cell? ⟨b, off + i * 3 + 2, none⟩ = some (.slice ka kl kc)) ∧
    (0 < kl → ∃ kb ko, ka = some ⟨kb, ko, none⟩ ∧ kb < w.heap.size ∧ ∀ j, j < kl → w.cell? ⟨kb, ko + j, none⟩ = some (.int .u8 (bv j)))

def IsPlain (w : World) (a : Option Addr) (n : Nat) : Prop :=
  0 < n → ∃ b off, a = some ⟨b, off, none⟩ ∧ b < w.heap.size ∧ ∀ i, i < n → ∃ cd lg ka kl kc bv, cd < 256 ∧ (∀ j : Nat, bv j < 256) ∧ IsOne w b off i cd lg ka kl kc bv

theorem isIts_of {w : World} {a : Option Addr} {n : Nat} (h : IsPlain w a n) : ∃ (Cd : Nat → Nat) (Lg : Nat → Bool) (ka : Nat → Option Addr) (kl kc : Nat → Nat) (Bv : Nat → Nat → Nat), (∀ i, Cd i < 256) ∧ (∀ i j, Bv i j < 256) ∧ IsIts w a n Cd Lg ka kl kc Bv := by
  by_cases h0 : 0 < n
  · obtain ⟨b, off, rfl, hb, hc⟩ := h h0
    have h1 : ∀ i, ∃ t : Nat × Bool × Option Addr × Nat × Nat × (Nat → Nat), t.1 < 256 ∧ (∀ j, t.2.2.2.2.2 j < 256) ∧ (i < n → IsOne w b off i t.1 t.2.1 t.2.2.1 t.2.2.2.1 t.2.2.2.2.1 t.2.2.2.2.2) := fun i => by
      by_cases hi : i < n
      · obtain ⟨cd, lg, ka, kl, kc, bv, k1, k2, k3⟩ := hc i hi
        exact ⟨(cd, lg, ka, kl, kc, bv), k1, k2, fun _ => k3⟩
      · exact ⟨(0, false, none, 0, 0, fun _ => 0), Nat.zero_lt_succ _, fun _ => Nat.zero_lt_succ _, fun h => absurd h hi⟩
    obtain ⟨t, ht⟩ : ∃ t : Nat → Nat × Bool × Option Addr × Nat × Nat × (Nat → Nat), ∀ i, (t i).1 < 256 ∧ (∀ j, (t i).2.2.2.2.2 j < 256) ∧ (i < n → IsOne w b off i (t i).1 (t i).2.1 (t i).2.2.1 (t i).2.2.2.1 (t i).2.2.2.2.1 (t i).2.2.2.2.2) := ⟨fun i => Classical.choose (h1 i), fun i => Classical.choose_spec (h1 i)⟩
    refine ⟨fun i => (t i).1, fun i => (t i).2.1, fun i => (t i).2.2.1, fun i => (t i).2.2.2.1, fun i => (t i).2.2.2.2.1, fun i => (t i).2.2.2.2.2, fun i => (ht i).1, fun i => (ht i).2.1, fun _ => ⟨b, off, rfl, hb, fun i hi => (ht i).2.2 hi⟩⟩
  · exact ⟨fun _ => 0, fun _ => false, fun _ => none, fun _ => 0, fun _ => 0, fun _ _ => 0, fun _ => Nat.zero_lt_succ _, fun _ _ => Nat.zero_lt_succ _, fun h => absurd h h0⟩

set_option maxRecDepth 100000 in
theorem walk (a0 : Option Addr) (len0 cap0 : Nat) (w : World) (h0 : IsPlain w a0 len0) :
    Calls Ybgs.prog 3 #[.slice a0 len0 cap0] w fun e w' => e = .returned (.bool true) ∧ Below w.heap.size w w' := by
  by_cases hn : len0 ≤ 512
  · obtain ⟨Cd, Lg, ka, kl, kc, Bv, h1, h2, h3⟩ := isIts_of h0
    exact (law_any a0 len0 cap0 Cd Lg ka kl kc Bv w h1 h2 hn h3).mono fun e w' ⟨he, hg⟩ => ⟨he, hg.os, hg.tape, hg.output, hg.size, fun k hk => hg.block k hk (by simp)⟩
  · have hn' : (512 : Int) < (len0 : Int) := by omega
    clear h0
    go_enter Ybgs.func3, Ybgs.ntmps3
    go_wp2
    go_ret
    exact ⟨rfl, Below.refl _ _⟩

set_option maxRecDepth 100000 in
theorem lifted (os : Os) (started : os.Started) (H : Type) (enc : TypeId × Value → H) :
    ReturnsInHanded {} Ybgs.checked os 3 .any (Rows.lawS5204ASortsSpec.pre6 enc Ybgs.prog Ybgs.f3 Rows.lawS5204ASortsRow.domain false) (Rows.lawS5204ASortsSpec.post enc Ybgs.prog Ybgs.f3 false true false false) := by
  refine returnsInHanded_of_change (C := Ybgs.checked) own started (by kernel_rfl) Ybgs.func3
    (ChangeSpec.witness6 (enc := enc) (C := Ybgs.checked) false ⟨#[], #[.slice none 0 0], []⟩ 8 (by kernel_rfl) (by kernel_rfl) (by kernel_rfl) (by kernel_rfl)) ?_
  intro W base args ds gs before hval0 hW hcnd _
  have hval : ∀ (j : Nat) t v, Ybgs.f3.params[j]? = some t → args[j]? = some v → Value.okWide Ybgs.prog W .any base t v := hval0
  have hW' := hW
  obtain ⟨p, q, hA0, hV, rfl, hfz, hnd⟩ := hW
  have hA : DataW.TrodAll enc Ybgs.prog W 0 (fun _ => true) true Ybgs.f3.params.toList args.toList ds p := hA0
  rw [Ybgs.params3] at hA hval
  obtain ⟨v0, vs0, d0, ds0, p0, q0, hargs, rfl, rfl, h0, r0⟩ := trodAll_cons hA
  obtain ⟨rfl, rfl, rfl⟩ := trodAll_nil r0
  obtain rfl : args = #[v0] := by cases args; simp_all
  obtain ⟨rfl, rfl⟩ := trodVars_none hV
  obtain ⟨a0, len0, cap0, rfl⟩ := okWide_slice Ybgs.underlying22 (hval 0 22 v0 rfl rfl)
  have k0 := h0
  have lt0 : ∀ x ∈ p0, x.block < W.heap.size := by obtain ⟨m, hm⟩ := k0; exact DataW.trod_lt m _ _ _ hm
  have w0 : IsPlain W a0 len0 := by
    obtain ⟨fuel, hf⟩ := h0
    rcases open_slice Ybgs.underlying22 hf with ⟨hcs, _⟩ | ⟨a, len, cap, m, n, D, Pl, hcs, _, hl, hm, hmm, _, hx⟩
    · simp [Value.cells] at hcs
      intro h
      omega
    · simp [Value.cells] at hcs
      obtain ⟨rfl, rfl, rfl⟩ := hcs
      simp only [if_true] at hmm
      intro hpos
      obtain ⟨b, off, spot⟩ := a
      have each : ∀ i, i < len0 → ∃ (cd : Nat) (lg : Bool) (ka : Option Addr) (kl kc : Nat) (bv : Nat → Nat), cd < 256 ∧ (∀ j : Nat, bv j < 256) ∧
          (W.cell? ((⟨b, off, spot⟩ : Addr).add (i * 3)) = some (.int .u8 cd) ∧ W.cell? ((⟨b, off, spot⟩ : Addr).add (i * 3 + 1)) = some (.bool lg) ∧ W.cell? ((⟨b, off, spot⟩ : Addr).add (i * 3 + 2)) = some (.slice ka kl kc)) ∧
          (0 < kl → ∃ kb ko, ka = some ⟨kb, ko, none⟩ ∧ kb < W.heap.size ∧ ∀ j, j < kl → W.cell? ⟨kb, ko + j, none⟩ = some (.int .u8 (bv j))) := by
        intro i hi
        obtain ⟨cs', g1, g2⟩ := hx i (by omega)
        rw [show Ybgs.prog.cellsOf 25 = 3 from by kernel_rfl] at g1
        obtain ⟨_, hlen, hcell⟩ := World.cells?_some g1
        obtain ⟨y0, y1, y2, m3, _, _, t0, t1, t2⟩ := trod_struct3 Ybgs.underlying25 g2
        match cs', hlen with
        | [u0, u1, u2], _ =>
          rw [show Ybgs.prog.cellsOf 5 = 1 from by kernel_rfl] at t0
          rw [show Ybgs.prog.cellsOf 4 = 1 from by kernel_rfl] at t1
          rw [show Ybgs.prog.cellsOf 23 = 1 from by kernel_rfl] at t2
          obtain ⟨c, e0, _, wc⟩ := DataW.trod_int Ybgs.underlying5 t0
          obtain ⟨lg, e1, _, _⟩ := DataW.trod_bool Ybgs.underlying4 t1
          have z0 := hcell 0 (by omega)
          have z1 := hcell 1 (by omega)
          have z2 := hcell 2 (by omega)
          rw [add_add] at z0 z1 z2
          simp at e0 e1
          obtain ⟨c1, c2⟩ := bounds_u8 wc
          obtain ⟨cd, rfl⟩ := Int.eq_ofNat_of_zero_le c1
          rcases open_ints Ybgs.underlying23 Ybgs.underlying5 (by kernel_rfl) t2 with ⟨e2, _⟩ | ⟨x, l, cc, zs, e2, _, hl2, hm2, hz2, _, hcell2, hwz⟩
          · simp at e2
            refine ⟨cd, lg, none, 0, 0, fun _ => 0, by omega, fun _ => Nat.zero_lt_succ _, ⟨?_, ?_, ?_⟩, fun h => absurd h (Nat.lt_irrefl 0)⟩
            · simpa [e0] using z0
            · simpa [e1] using z1
            · simpa [e2] using z2
          · simp at e2
            have hzl : l ≤ zs.length := by rw [hz2]; split <;> omega
            refine ⟨cd, lg, some x, l, cc, fun j => (zs.getD j 0).toNat % 256, by omega, fun _ => Nat.mod_lt _ (Nat.zero_lt_succ _), ⟨?_, ?_, ?_⟩, fun hl0 => ?_⟩
            · simpa [e0] using z0
            · simpa [e1] using z1
            · simpa [e2] using z2
            · obtain ⟨kb, ko, sp⟩ := x
              have hsp : sp = none := by
                have := World.cell?_spot (hcell2 0 (by omega))
                simpa [Addr.add] using this
              subst hsp
              refine ⟨kb, ko, rfl, ?_, fun j hj => ?_⟩
              · have := World.block_lt_of_cell? W _ (hcell2 0 (by omega))
                simpa [Addr.add] using this
              · have h1 := hcell2 j (by omega)
                rw [add_plain] at h1
                rw [h1]
                have hb := bounds_u8 (hwz (zs.getD j 0) (by
                  rw [List.getD_eq_getElem?_getD, List.getElem?_eq_getElem (show j < zs.length by omega)]
                  exact List.getElem_mem _))
                have : (((zs.getD j 0).toNat % 256 : Nat) : Int) = zs.getD j 0 := by omega
                rw [this]
      have hsp : spot = none := by
        obtain ⟨_, _, _, _, _, _, _, _, ⟨c0, _⟩, _⟩ := each 0 hpos
        simpa [Addr.add] using World.cell?_spot c0
      subst hsp
      refine ⟨b, off, rfl, ?_, fun i hi => ?_⟩
      · obtain ⟨_, _, _, _, _, _, _, _, ⟨c0, _⟩, _⟩ := each 0 hpos
        have := World.block_lt_of_cell? W _ c0
        simpa [Addr.add] using this
      · obtain ⟨cd, lg, ka, kl, kc, bv, k1, k2, ⟨k3, k4, k5⟩, k6⟩ := each i hi
        rw [add_plain] at k3 k4 k5
        exact ⟨cd, lg, ka, kl, kc, bv, k1, k2, ⟨⟨k3, by rw [Nat.add_assoc]; exact k4, by rw [Nat.add_assoc]; exact k5⟩, k6⟩⟩
  clear hA0 hval0
  refine (walk a0 len0 cap0 W w0).mono fun e W' ⟨he, bel⟩ => ?_
  subst he
  exact ⟨_, rfl, _, _, _, [], _, [], hW', trodAll_mk1 (shut_bool Ybgs.underlying4 _), (trodAll_cons_mk (Below.trod laidOut (by kernel_rfl) (of_decide_eq_true (by kernel_rfl)) k0 bel lt0) trodAll_mk0), rfl, bel.frame _, fun h => by cases h⟩

theorem over : Rows.lawS5204ASortsRow.holds Ybgs.pinned (OpenSpec.ofChange Rows.lawS5204ASortsSpec) :=
  OpenClaim.holds_of_wide 3 Ybgs.f3 rfl rfl rfl rfl rfl rfl rfl ⟨rfl, rfl, rfl, rfl, rfl⟩ rfl rfl rfl rfl rfl (by kernel_rfl) Ybgs.func3 (by kernel_rfl)
    (of_decide_eq_true (by kernel_rfl)) (by unfold Func.isWrapper; first | (rw [if_pos (by decide +kernel)]; kernel_rfl) | (rw [if_neg (by decide +kernel)]; exact ⟨rfl, rfl⟩))
    (fun os started H enc _ => lifted os started H enc)

theorem sorts_proved : Rows.LawS5204ASortsSaid := over

end Go.Proofs.YbonekuxeGreat
