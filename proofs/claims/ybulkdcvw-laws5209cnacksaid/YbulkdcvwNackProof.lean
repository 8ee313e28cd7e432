/-
  The row: 'LawS5209CNackSaid'.
-/
import Derived.Test.YbulkdcvwRows
import Derived.Test.YbulkdcvwNack
import Derived.ProofKit
import Derived.OpenShut
import Derived.ShutString
import Derived.ChangeOld
import Derived.Deep.Slices
namespace Go.Proofs.Ybulkdcvw.Nack
open Go.ChangeShapes Go.WideShapes Go.ChangeAt Go.RowKit Go.Deep
open Go.ChangeMaps (open_string shut_string)

theorem own : ownKnob Yba.prog.godebug = none := by kernel_rfl
theorem laidOut : laidOutB Yba.prog = true := by kernel_rfl

def strOf : Value → ByteArray
  | .string s => s
  | _ => ByteArray.empty
def boolOf : Value → Bool
  | .bool x => x
  | _ => false

/-- What is read of the names: a string at each index. -/
def ReadStrs (w : World) (a : Option Addr) (len : Nat) : Prop :=
  0 < len → ∃ b off, a = some ⟨b, off, none⟩ ∧ b < w.heap.size ∧ ∀ i, i < len → ∃ s : ByteArray, w.cell? ⟨b, off + i, none⟩ = some (.string s) ∧ s.size ≤ maxLen
/-- What is read of the flags. -/
def ReadBools (w : World) (a : Option Addr) (len : Nat) : Prop :=
  0 < len → ∃ b off, a = some ⟨b, off, none⟩ ∧ b < w.heap.size ∧ ∀ i, i < len → ∃ x : Bool, w.cell? ⟨b, off + i, none⟩ = some (.bool x)

theorem isStrs_of {w : World} {a : Option Addr} {len : Nat} (h : ReadStrs w a len) : ∃ S, IsStrs w a len S := by
  by_cases h0 : 0 < len
  · obtain ⟨b, off, rfl, hb, hc⟩ := h h0
    refine ⟨fun i => strOf ((w.cell? ⟨b, off + i, none⟩).getD undef), fun _ => ⟨b, off, rfl, hb, fun i hi => ?_⟩⟩
    obtain ⟨s, c0, hs⟩ := hc i hi
    simp only [c0]
    exact ⟨rfl, hs⟩
  · exact ⟨fun _ => ByteArray.empty, fun h => absurd h h0⟩
theorem isBools_of {w : World} {a : Option Addr} {len : Nat} (h : ReadBools w a len) : ∃ I, IsBools w a len I := by
  by_cases h0 : 0 < len
  · obtain ⟨b, off, rfl, hb, hc⟩ := h h0
    refine ⟨fun i => boolOf ((w.cell? ⟨b, off + i, none⟩).getD undef), fun _ => ⟨b, off, rfl, hb, fun i hi => ?_⟩⟩
    obtain ⟨x, c0⟩ := hc i hi
    simp only [c0]
    rfl
  · exact ⟨fun _ => false, fun h => absurd h h0⟩

set_option maxRecDepth 100000 in
theorem walk (a0 a1 : Option Addr) (len0 cap0 len1 cap1 : Nat) (s : Int) (same : Bool) (F0 : ByteArray) (p : Int) (np : Bool) (w : World) (h0 : ReadStrs w a0 len0) (h1 : ReadBools w a1 len1) (hl1 : len1 ≤ maxLen) (hs : 0 ≤ s ∧ s ≤ 18446744073709551615) (hF : F0.size ≤ maxLen) (hp : 0 ≤ p ∧ p ≤ 255) :
    Calls Yba.prog 4 #[.slice a0 len0 cap0, .slice a1 len1 cap1, .int .u64 s, .bool same, .string F0, .int .u8 p, .bool np] w fun e w' => e = .returned (.bool true) ∧ Below w.heap.size w w' := by
  obtain ⟨S, HD⟩ := isStrs_of h0
  obtain ⟨I, HI⟩ := isBools_of h1
  obtain ⟨sn, rfl⟩ := Int.eq_ofNat_of_zero_le hs.1
  obtain ⟨pn, rfl⟩ := Int.eq_ofNat_of_zero_le hp.1
  by_cases hn : len0 ≤ 1024
  · exact nack_walk a0 a1 len0 cap0 len1 cap1 S I sn same F0 pn np w hn hl1 (by omega) hF (by omega) HD HI
  · have hn2 : 1024 < len0 := by omega
    clear HD HI h0 h1 hs hp hF hl1
    go_enter Yba.func4, Yba.ntmps4
    go_wp2
    go_ret
    exact ⟨rfl, Below.refl _ _⟩

set_option maxRecDepth 100000 in
theorem lifted (os : Os) (started : os.Started) (H : Type) (enc : TypeId × Value → H) :
    ReturnsInHanded {} Yba.checked os 4 .any (Rows.lawS5209CNackSpec.pre6 enc Yba.prog Yba.f4 Rows.lawS5209CNackRow.domain false) (Rows.lawS5209CNackSpec.post enc Yba.prog Yba.f4 false true false false) := by
  refine returnsInHanded_of_change (C := Yba.checked) own started (by kernel_rfl) Yba.func4
    (ChangeSpec.witness6 (enc := enc) (C := Yba.checked) false ⟨#[], #[.slice none 0 0, .slice none 0 0, .int .u64 0, .bool false, .string ByteArray.empty, .int .u8 0, .bool false], []⟩ 8 (by kernel_rfl) (by kernel_rfl) (by kernel_rfl) (by kernel_rfl)) ?_
  intro W base args ds gs before hval0 hW hcnd _
  have hval : ∀ (j : Nat) t v, Yba.f4.params[j]? = some t → args[j]? = some v → Value.okWide Yba.prog W .any base t v := hval0
  have hW' := hW
  obtain ⟨p, q, hA0, hV, rfl, hfz, hnd⟩ := hW
  have hA : DataW.TrodAll enc Yba.prog W 0 (fun _ => true) true Yba.f4.params.toList args.toList ds p := hA0
  rw [Yba.params4] at hA hval
  obtain ⟨v0, vs0, d0, ds0, p0, q0, hargs, rfl, rfl, h0, r0⟩ := trodAll_cons hA
  obtain ⟨v1, vs1, d1, ds1, p1, q1, rfl, rfl, rfl, h1, r1⟩ := trodAll_cons r0
  obtain ⟨v2, vs2, d2, ds2, p2, q2, rfl, rfl, rfl, h2, r2⟩ := trodAll_cons r1
  obtain ⟨v3, vs3, d3, ds3, p3, q3, rfl, rfl, rfl, h3, r3⟩ := trodAll_cons r2
  obtain ⟨v4, vs4, d4, ds4, p4, q4, rfl, rfl, rfl, h4, r4⟩ := trodAll_cons r3
  obtain ⟨v5, vs5, d5, ds5, p5, q5, rfl, rfl, rfl, h5, r5⟩ := trodAll_cons r4
  obtain ⟨v6, vs6, d6, ds6, p6, q6, rfl, rfl, rfl, h6, r6⟩ := trodAll_cons r5
  obtain ⟨rfl, rfl, rfl⟩ := trodAll_nil r6
  obtain rfl : args = #[v0, v1, v2, v3, v4, v5, v6] := by cases args; simp_all
  obtain ⟨rfl, rfl⟩ := trodVars_none hV
  obtain ⟨a0, len0, cap0, rfl⟩ := okWide_slice Yba.underlying51 (hval 0 51 v0 rfl rfl)
  have k0 := h0
  have lt0 : ∀ x ∈ p0, x.block < W.heap.size := by obtain ⟨m, hm⟩ := k0; exact DataW.trod_lt m _ _ _ hm
  have w0 : ReadStrs W a0 len0 := by
    obtain ⟨fuel, hf⟩ := h0
    rcases open_slice Yba.underlying51 hf with ⟨hcs, _⟩ | ⟨a, len, cap, m, n, D, Pl, hcs, _, hl, hm, hmm, _, hx⟩
    · simp [Value.cells] at hcs
      intro h
      omega
    · simp [Value.cells] at hcs
      obtain ⟨rfl, rfl, rfl⟩ := hcs
      simp only [if_true] at hmm
      intro hpos
      obtain ⟨b, off, spot⟩ := a
      have each : ∀ i, i < len0 → ∃ s : ByteArray, W.cell? ((⟨b, off, spot⟩ : Addr).add i) = some (.string s) ∧ s.size ≤ maxLen := by
        intro i hi
        obtain ⟨cs', g1, g2⟩ := hx i (by omega)
        rw [show Yba.prog.cellsOf 9 = 1 from by kernel_rfl] at g1
        obtain ⟨_, hlen, hcell⟩ := World.cells?_some g1
        obtain ⟨s, e0, _, hs⟩ := DataW.trod_string Yba.underlying9 g2
        subst e0
        have z0 := hcell 0 (by omega)
        rw [add_add] at z0
        exact ⟨s, by simpa using z0, hs⟩
      have hsp : spot = none := by
        obtain ⟨_, c0, _⟩ := each 0 hpos
        simpa [Addr.add] using World.cell?_spot c0
      subst hsp
      refine ⟨b, off, rfl, ?_, fun i hi => ?_⟩
      · obtain ⟨_, c0, _⟩ := each 0 hpos
        have := World.block_lt_of_cell? W _ c0
        simpa [Addr.add] using this
      · have h := each i hi
        rw [add_plain] at h
        exact h
  obtain ⟨a1, len1, cap1, rfl⟩ := okWide_slice Yba.underlying52 (hval 1 52 v1 rfl rfl)
  have k1 := h1
  have lt1 : ∀ x ∈ p1, x.block < W.heap.size := by obtain ⟨m, hm⟩ := k1; exact DataW.trod_lt m _ _ _ hm
  have w1 : ReadBools W a1 len1 ∧ len1 ≤ maxLen := by
    obtain ⟨fuel, hf⟩ := h1
    rcases open_slice Yba.underlying52 hf with ⟨hcs, _⟩ | ⟨a, len, cap, m, n, D, Pl, hcs, _, hl, hm, hmm, _, hx⟩
    · simp [Value.cells] at hcs
      obtain ⟨_, rfl, _⟩ := hcs
      exact ⟨fun h => absurd h (by omega), Nat.zero_le _⟩
    · simp [Value.cells] at hcs
      obtain ⟨rfl, rfl, rfl⟩ := hcs
      simp only [if_true] at hmm
      refine ⟨fun hpos => ?_, Nat.le_trans hl hm⟩
      obtain ⟨b, off, spot⟩ := a
      have each : ∀ i, i < len1 → ∃ x : Bool, W.cell? ((⟨b, off, spot⟩ : Addr).add i) = some (.bool x) := by
        intro i hi
        obtain ⟨cs', g1, g2⟩ := hx i (by omega)
        rw [show Yba.prog.cellsOf 4 = 1 from by kernel_rfl] at g1
        obtain ⟨_, hlen, hcell⟩ := World.cells?_some g1
        obtain ⟨x, e0, _⟩ := DataW.trod_bool Yba.underlying4 g2
        subst e0
        have z0 := hcell 0 (by omega)
        rw [add_add] at z0
        exact ⟨x, by simpa using z0⟩
      have hsp : spot = none := by
        obtain ⟨_, c0⟩ := each 0 hpos
        simpa [Addr.add] using World.cell?_spot c0
      subst hsp
      refine ⟨b, off, rfl, ?_, fun i hi => ?_⟩
      · obtain ⟨_, c0⟩ := each 0 hpos
        have := World.block_lt_of_cell? W _ c0
        simpa [Addr.add] using this
      · have h := each i hi
        rw [add_plain] at h
        exact h
  obtain ⟨a2, rfl, rfl, rfl, w2⟩ := open_int Yba.underlying25 (hval 2 25 v2 rfl rfl) h2
  obtain ⟨a3, rfl, rfl, rfl⟩ := open_bool Yba.underlying4 (hval 3 4 v3 rfl rfl) h3
  obtain ⟨F0, rfl, rfl, rfl, hF0⟩ := open_string Yba.underlying9 (hval 4 9 v4 rfl rfl) h4
  obtain ⟨a5, rfl, rfl, rfl, w5⟩ := open_int Yba.underlying5 (hval 5 5 v5 rfl rfl) h5
  obtain ⟨a6, rfl, rfl, rfl⟩ := open_bool Yba.underlying4 (hval 6 4 v6 rfl rfl) h6
  clear hA0 hval0
  refine (walk a0 a1 len0 cap0 len1 cap1 a2 a3 F0 a5 a6 W w0 w1.1 w1.2 (bounds_u64 w2) hF0 (bounds_u8 w5)).mono fun e W' ⟨he, bel⟩ => ?_
  subst he
  exact ⟨_, rfl, _, _, _, [], _, [], hW', trodAll_mk1 (shut_bool Yba.underlying4 _), (trodAll_cons_mk (Below.trod laidOut (by kernel_rfl) (of_decide_eq_true (by kernel_rfl)) k0 bel lt0) (trodAll_cons_mk (Below.trod laidOut (by kernel_rfl) (of_decide_eq_true (by kernel_rfl)) k1 bel lt1) (trodAll_cons_mk (shut_int Yba.underlying25 w2) (trodAll_cons_mk (shut_bool Yba.underlying4 _) (trodAll_cons_mk (shut_string Yba.underlying9 hF0) (trodAll_cons_mk (shut_int Yba.underlying5 w5) (trodAll_cons_mk (shut_bool Yba.underlying4 _) trodAll_mk0))))))), rfl, bel.frame _, fun h => by cases h⟩

theorem over : Rows.lawS5209CNackRow.holds Yba.pinned (OpenSpec.ofChange Rows.lawS5209CNackSpec) :=
  OpenClaim.holds_of_wide 4 Yba.f4 rfl rfl rfl rfl rfl rfl rfl ⟨rfl, rfl, rfl, rfl, rfl⟩ rfl rfl rfl rfl rfl (by kernel_rfl) Yba.func4 (by kernel_rfl)
    (of_decide_eq_true (by kernel_rfl)) (by unfold Func.isWrapper; first | (rw [if_pos (by decide +kernel)]; kernel_rfl) | (rw [if_neg (by decide +kernel)]; exact ⟨rfl, rfl⟩))
    (fun os started H enc _ => lifted os started H enc)

theorem proved : Rows.LawS5209CNackSaid := over

end Go.Proofs.Ybulkdcvw.Nack
