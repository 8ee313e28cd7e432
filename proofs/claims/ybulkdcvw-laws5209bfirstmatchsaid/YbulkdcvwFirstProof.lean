/-
  The row: 'LawS5209BFirstMatchSaid'.
-/
import Derived.Test.YbulkdcvwRows
import Derived.Test.YbulkdcvwFirstOut
import Derived.ProofKit
import Derived.OpenShut
import Derived.ShutString
import Derived.ChangeOld
import Derived.Deep.Slices
import Derived.Deep.Strs
namespace Go.Proofs.Ybulkdcvw.FirstMatch
open Go.ChangeShapes Go.WideShapes Go.ChangeAt Go.RowKit Go.Deep
open Go.ChangeMaps (open_string shut_string)

theorem own : ownKnob Yba.prog.godebug = none := by kernel_rfl
theorem laidOut : laidOutB Yba.prog = true := by kernel_rfl

def strOf : Value → ByteArray
  | .string s => s
  | _ => ByteArray.empty

/-- What is read of the slice that came in: at each index a string and two numbers of their kinds. -/
def IsTriples (w : World) (a : Option Addr) (len : Nat) : Prop :=
  0 < len → ∃ b off, a = some ⟨b, off, none⟩ ∧ b < w.heap.size ∧ ∀ i, i < len → ∃ (s : ByteArray) (g st : Int), w.cell? ⟨b, off + i * 3, none⟩ = some (.string s) ∧ w.cell? ⟨b, off + i * 3 + 1, none⟩ = some (.int .u64 g) ∧ w.cell? ⟨b, off + i * 3 + 2, none⟩ = some (.int .u8 st) ∧
    (0 ≤ g ∧ g ≤ 18446744073709551615) ∧ 0 ≤ st ∧ st ≤ 255

theorem isEnts_of {w : World} {a : Option Addr} {len : Nat} (h : IsTriples w a len) : ∃ (S : Nat → ByteArray) (G St : Nat → Nat), (∀ i, G i < 18446744073709551616) ∧ (∀ i, St i < 256) ∧ IsEnts w a len S G St := by
  by_cases h0 : 0 < len
  · obtain ⟨b, off, rfl, hb, hc⟩ := h h0
    refine ⟨fun i => strOf ((w.cell? ⟨b, off + i * 3, none⟩).getD undef), fun i => (intOf ((w.cell? ⟨b, off + i * 3 + 1, none⟩).getD undef)).toNat % 18446744073709551616,
      fun i => (intOf ((w.cell? ⟨b, off + i * 3 + 2, none⟩).getD undef)).toNat % 256, fun i => Nat.mod_lt _ (by omega), fun i => Nat.mod_lt _ (by omega), fun _ => ⟨b, off, rfl, hb, fun i hi => ?_⟩⟩
    obtain ⟨s, g, st, c0, c1, c2, hg, hst⟩ := hc i hi
    refine ⟨?_, ?_, ?_⟩
    · simp only [c0]; rfl
    · simp only [c1, Option.getD_some, intOf]
      congr 2
      omega
    · simp only [c2, Option.getD_some, intOf]
      congr 2
      omega
  · exact ⟨fun _ => ByteArray.empty, fun _ => 0, fun _ => 0, fun _ => Nat.zero_lt_succ _, fun _ => Nat.zero_lt_succ _, fun h => absurd h h0⟩

set_option maxRecDepth 100000 in
theorem walk (a0 : Option Addr) (len0 cap0 : Nat) (F0 : ByteArray) (p : Int) (w : World) (h : IsTriples w a0 len0) (hp : 0 ≤ p ∧ p ≤ 18446744073709551615) :
    Calls Yba.prog 3 #[.slice a0 len0 cap0, .string F0, .int .u64 p] w fun e w' => e = .returned (.bool true) ∧ Below w.heap.size w w' := by
  obtain ⟨S, G, St, hG, hSt, HD⟩ := isEnts_of h
  obtain ⟨P, rfl⟩ := Int.eq_ofNat_of_zero_le hp.1
  by_cases hn : len0 ≤ 1024
  · by_cases hs : P % (len0 + 1) < len0
    · exact first_in a0 len0 cap0 P S G St F0 w hn (by omega) hG hSt HD (P % (len0 + 1)) (by simp) hs
    · have hm : P % (len0 + 1) < len0 + 1 := Nat.mod_lt _ (by omega)
      have he : P % (len0 + 1) = len0 := by omega
      have hsel : (P : Int) % ((len0 : Int) + 1) = (len0 : Int) := by
        have h2 : ((P % (len0 + 1) : Nat) : Int) = (P : Int) % ((len0 : Int) + 1) := by simp
        rw [← h2, he]
      exact first_out a0 len0 cap0 P S G St F0 w hn (by omega) hG hSt HD hsel
  · have hn2 : 1024 < len0 := by omega
    clear HD h hG hSt hp
    go_enter Yba.func3, Yba.ntmps3
    go_wp2
    go_ret
    exact ⟨rfl, Below.refl _ _⟩

set_option maxRecDepth 100000 in
theorem lifted (os : Os) (started : os.Started) (H : Type) (enc : TypeId × Value → H) :
    ReturnsInHanded {} Yba.checked os 3 .any (Rows.lawS5209BFirstMatchSpec.pre6 enc Yba.prog Yba.f3 Rows.lawS5209BFirstMatchRow.domain false) (Rows.lawS5209BFirstMatchSpec.post enc Yba.prog Yba.f3 false true false false) := by
  refine returnsInHanded_of_change (C := Yba.checked) own started (by kernel_rfl) Yba.func3
    (ChangeSpec.witness6 (enc := enc) (C := Yba.checked) false ⟨#[], #[.slice none 0 0, .string ByteArray.empty, .int .u64 0], []⟩ 8 (by kernel_rfl) (by kernel_rfl) (by kernel_rfl) (by kernel_rfl)) ?_
  intro W base args ds gs before hval0 hW hcnd _
  have hval : ∀ (j : Nat) t v, Yba.f3.params[j]? = some t → args[j]? = some v → Value.okWide Yba.prog W .any base t v := hval0
  have hW' := hW
  obtain ⟨p, q, hA0, hV, rfl, hfz, hnd⟩ := hW
  have hA : DataW.TrodAll enc Yba.prog W 0 (fun _ => true) true Yba.f3.params.toList args.toList ds p := hA0
  rw [Yba.params3] at hA hval
  obtain ⟨v0, vs0, d0, ds0, p0, q0, hargs, rfl, rfl, h0, r0⟩ := trodAll_cons hA
  obtain ⟨v1, vs1, d1, ds1, p1, q1, rfl, rfl, rfl, h1, r1⟩ := trodAll_cons r0
  obtain ⟨v2, vs2, d2, ds2, p2, q2, rfl, rfl, rfl, h2, r2⟩ := trodAll_cons r1
  obtain ⟨rfl, rfl, rfl⟩ := trodAll_nil r2
  obtain rfl : args = #[v0, v1, v2] := by cases args; simp_all
  obtain ⟨rfl, rfl⟩ := trodVars_none hV
  obtain ⟨a0, len0, cap0, rfl⟩ := okWide_slice Yba.underlying22 (hval 0 22 v0 rfl rfl)
  have k0 := h0
  have lt0 : ∀ x ∈ p0, x.block < W.heap.size := by obtain ⟨m, hm⟩ := k0; exact DataW.trod_lt m _ _ _ hm
  have w0 : IsTriples W a0 len0 := by
    obtain ⟨fuel, hf⟩ := h0
    rcases open_slice Yba.underlying22 hf with ⟨hcs, _⟩ | ⟨a, len, cap, m, n, D, Pl, hcs, _, hl, hm, hmm, _, hx⟩
    · simp [Value.cells] at hcs
      intro h
      omega
    · simp [Value.cells] at hcs
      obtain ⟨rfl, rfl, rfl⟩ := hcs
      simp only [if_true] at hmm
      intro hpos
      obtain ⟨b, off, spot⟩ := a
      have each : ∀ i, i < len0 → ∃ (s : ByteArray) (g st : Int), W.cell? ((⟨b, off, spot⟩ : Addr).add (i * 3)) = some (.string s) ∧ W.cell? ((⟨b, off, spot⟩ : Addr).add (i * 3 + 1)) = some (.int .u64 g) ∧ W.cell? ((⟨b, off, spot⟩ : Addr).add (i * 3 + 2)) = some (.int .u8 st) ∧
          (0 ≤ g ∧ g ≤ 18446744073709551615) ∧ 0 ≤ st ∧ st ≤ 255 := by
        intro i hi
        obtain ⟨cs', g1, g2⟩ := hx i (by omega)
        rw [show Yba.prog.cellsOf 27 = 3 from by kernel_rfl] at g1
        obtain ⟨_, hlen, hcell⟩ := World.cells?_some g1
        obtain ⟨y0, y1, y2, m3, _, _, t0, t1, t2⟩ := trod_struct3 Yba.underlying27 g2
        match cs', hlen with
        | [u0, u1, u2], _ =>
          rw [show Yba.prog.cellsOf 9 = 1 from by kernel_rfl] at t0
          rw [show Yba.prog.cellsOf 25 = 1 from by kernel_rfl] at t1
          rw [show Yba.prog.cellsOf 5 = 1 from by kernel_rfl] at t2
          obtain ⟨s, e0, _, _⟩ := DataW.trod_string Yba.underlying9 t0
          obtain ⟨g, e1, _, wg⟩ := DataW.trod_int Yba.underlying25 t1
          obtain ⟨st, e2, _, wst⟩ := DataW.trod_int Yba.underlying5 t2
          simp at e0 e1 e2
          have z0 := hcell 0 (by omega)
          have z1 := hcell 1 (by omega)
          have z2 := hcell 2 (by omega)
          rw [add_add] at z0 z1 z2
          refine ⟨s, g, st, ?_, ?_, ?_, bounds_u64 wg, bounds_u8 wst⟩
          · simpa [e0] using z0
          · simpa [e1] using z1
          · simpa [e2] using z2
      have hsp : spot = none := by
        obtain ⟨_, _, _, c0, _⟩ := each 0 hpos
        simpa [Addr.add] using World.cell?_spot c0
      subst hsp
      refine ⟨b, off, rfl, ?_, fun i hi => ?_⟩
      · obtain ⟨_, _, _, c0, _⟩ := each 0 hpos
        have := World.block_lt_of_cell? W _ c0
        simpa [Addr.add] using this
      · have h := each i hi
        rw [add_plain, add_plain, add_plain] at h
        simpa [Nat.add_assoc] using h
  obtain ⟨F0, rfl, rfl, rfl, hF0⟩ := open_string Yba.underlying9 (hval 1 9 v1 rfl rfl) h1
  obtain ⟨a2, rfl, rfl, rfl, w2⟩ := open_int Yba.underlying23 (hval 2 23 v2 rfl rfl) h2
  clear hA0 hval0
  refine (walk a0 len0 cap0 F0 a2 W w0 (bounds_u64 w2)).mono fun e W' ⟨he, bel⟩ => ?_
  subst he
  exact ⟨_, rfl, _, _, _, [], _, [], hW', trodAll_mk1 (shut_bool Yba.underlying4 _), (trodAll_cons_mk (Below.trod laidOut (by kernel_rfl) (of_decide_eq_true (by kernel_rfl)) k0 bel lt0) (trodAll_cons_mk (shut_string Yba.underlying9 hF0) (trodAll_cons_mk (shut_int Yba.underlying23 w2) trodAll_mk0))), rfl, bel.frame _, fun h => by cases h⟩

theorem over : Rows.lawS5209BFirstMatchRow.holds Yba.pinned (OpenSpec.ofChange Rows.lawS5209BFirstMatchSpec) :=
  OpenClaim.holds_of_wide 3 Yba.f3 rfl rfl rfl rfl rfl rfl rfl ⟨rfl, rfl, rfl, rfl, rfl⟩ rfl rfl rfl rfl rfl (by kernel_rfl) Yba.func3 (by kernel_rfl)
    (of_decide_eq_true (by kernel_rfl)) (by unfold Func.isWrapper; first | (rw [if_pos (by decide +kernel)]; kernel_rfl) | (rw [if_neg (by decide +kernel)]; exact ⟨rfl, rfl⟩))
    (fun os started H enc _ => lifted os started H enc)

theorem proved : Rows.LawS5209BFirstMatchSaid := over

end Go.Proofs.Ybulkdcvw.FirstMatch
