/-
  'stableCmpFunc' and 'SortStableFunc' walked.
-/
import Derived.Test.YbonekuxeGreatInsw
import Derived.Test.YbonekuxeGreatSym4
import Derived.Test.YbonekuxeGreatBlk
namespace Go.Proofs.YbonekuxeGreat
open Go.RowKit Go.Deep Go.Proofs.YbonekuxeGreat.Plain

set_option maxRecDepth 100000 in
set_option maxHeartbeats 2000000 in
theorem stable_any (T G O n : Nat) (key : Nat → ByteArray) (Q : El → Prop) (R : El → El → Prop) (ho : Ord Q key n R) (g s N len cap : Nat) (d : Nat → El) (w : World) (hT : g ≠ T) (hG : g ≠ G) (hO : g ≠ O) (ht0 : Tree w T G O n key)
    (hrow0 : w.rowIs g 41 (N * 5) (rc d)) (hlen : s + len ≤ N) (hN : N ≤ 1000000) (hQ0 : ∀ k, s ≤ k → k < s + len → Q (d k)) (hinc : ∀ k l, s ≤ k → k < l → l < s + len → (d k).i < (d l).i) :
    Calls Ybgs.prog 10 #[.slice (some ⟨g, s * 5, none⟩) len cap, .int .i64 len, cmpV T] w fun e w' => e = .returned (.tuple #[]) ∧ (∃ d', w'.rowIs g 41 (N * 5) (rc d') ∧ Same s (s + len) d d' ∧ Sorted R s (s + len) d') ∧ w.grownBy w' (some g) := by
  have HO := Hid.mk' ho
  have HTT := Hid.mk' hT
  have HGG := Hid.mk' hG
  have HOO := Hid.mk' hO
  have HT0 := Hid.mk' ht0
  have HQ := Hid.mk' hQ0
  have HST := Hid.mk' (L1.start (R := R) (ix := El.i) 20 hinc)
  clear ho hT hG hO ht0 hQ0 hinc
  go_enter Ybgs.func10, Ybgs.ntmps10
  unfold cmpV
  go_wp2
  go_loopw [7, 8] (fun va vb wr => ∃ a b : Nat, b = a + 20 ∧ a ≤ len ∧ va = .int .i64 a ∧ vb = .int .i64 b ∧ ∃ e, wr.rowIs g 41 (N * 5) (rc e) ∧ Hid (∃ q, a = q * 20 ∧ L1 R El.i s (s + len) 20 q d e) ∧ w.grownBy wr (some g)) (fun va _ _ => len - (intOf va).toNat)
  case atStart => exact ⟨0, 20, rfl, Nat.zero_le _, rfl, rfl, d, hrow0, ⟨0, rfl, HST.out⟩, World.grownBy.refl _ _⟩
  case round =>
    obtain ⟨a, b, hb, hal, rfl, rfl, e, hrow, HL, hgr⟩ := hrel
    clear hrow0
    have hQe : Hid (∀ k, s ≤ k → k < s + len → Q (e k)) := by
      obtain ⟨q, _, hl⟩ := HL.out
      exact same_Q hl.same HQ.out
    have htr := HT0.out.grown hgr (by simpa using Ne.symm HTT.out) (by simpa using Ne.symm HGG.out) (by simpa using Ne.symm HOO.out)
    have HB := Hid.mk' hb
    have eb : (b : Int) + 20 = ((b + 20 : Nat) : Int) := by omega
    by_cases hlt : b ≤ len
    · have hin := insertion_any T G O n key Q R HO.out g s N a b len cap e wr HTT.out HGG.out HOO.out htr hrow hlen (by omega) hlt hN (fun k k1 k2 => hQe.out k (by omega) (by omega)) (by
        obtain ⟨q, hq, hl⟩ := HL.out
        exact fun k l k1 k2 k3 => hl.inc k l (by omega) k2 (by omega))
      have HIN := Hid.mk' hin
      have HGR := Hid.mk' hgr
      unfold cmpV at HIN
      clear hin htr hrow hb eb hgr
      go_wp2_with (first | (go_at_call 15; refine HIN.out.mono ?_; rintro _ w1 ⟨rfl, ⟨e1, hrow1, hs1, ho1⟩, hg1⟩))
      go_roundw
      case rel =>
        have hb := HB.out
        refine ⟨b, b + 20, rfl, hlt, rfl, by go_num, e1, hrow1, ?_, grown_trans HGR.out hg1⟩
        obtain ⟨q, hq, hl⟩ := HL.out
        refine ⟨q + 1, by omega, hl.step (by omega) ?_ ?_⟩
        · rw [show s + q * 20 = s + a from by omega, show s + a + 20 = s + b from by omega]; exact hs1
        · rw [show s + q * 20 = s + a from by omega, show s + a + 20 = s + b from by omega]; exact ho1
      case measure => simp [intOf]; have := HB.out; omega
    · have hin := insertion_any T G O n key Q R HO.out g s N a len len cap e wr HTT.out HGG.out HOO.out htr hrow hlen hal (Nat.le_refl _) hN (fun k k1 k2 => hQe.out k (by omega) (by omega)) (by
        obtain ⟨q, hq, hl⟩ := HL.out
        exact fun k l k1 k2 k3 => hl.inc k l (by omega) k2 (by omega))
      have HIN := Hid.mk' hin
      have HGR := Hid.mk' hgr
      unfold cmpV at HIN
      clear hin htr hrow hb eb hgr
      go_wp2_with (first | (go_at_call 15; refine HIN.out.mono ?_; rintro _ w1 ⟨rfl, ⟨e1, hrow1, hs1, ho1⟩, hg1⟩))
      have HMM : Hid (MM R El.i s (s + len) 20 d e1) := by
        have hb := HB.out
        obtain ⟨q, hq, hl⟩ := HL.out
        exact hl.fin (by omega) (by omega) (by rw [show s + q * 20 = s + a from by omega]; exact hs1) (by rw [show s + q * 20 = s + a from by omega]; exact ho1)
      have hgr1 := grown_trans HGR.out hg1
      clear hs1 ho1 hg1 HIN HL HB HGR hQe HST hlt hal
      go_loopw [6] (fun vB wr => ∃ B : Nat, 0 < B ∧ (B = 20 ∨ B ≤ 2 * len) ∧ vB = .int .i64 B ∧ ∃ e, wr.rowIs g 41 (N * 5) (rc e) ∧ Hid (MM R El.i s (s + len) B d e) ∧ w.grownBy wr (some g)) (fun vB _ => len - (intOf vB).toNat)
      case atStart => exact ⟨20, by omega, .inl rfl, rfl, e1, hrow1, HMM, hgr1⟩
      case round =>
        clear hrow1 hgr1 HMM
        obtain ⟨B, hB0, hB1, rfl, e0, hrow0, HM, hgr0⟩ := hrel
        by_cases hlt : B < len
        · obtain ⟨B2, hB2⟩ : ∃ x, x = 2 * B := ⟨_, rfl⟩
          have eB2 : 2 * (B : Int) = (B2 : Int) := by omega
          have eB2' : (B : Int) * 2 = (B2 : Int) := by omega
          have HB2 := Hid.mk' hB2
          have hB2l : B2 ≤ 4000000 := by omega
          have hBB2 : B < B2 := by omega
          clear hB2
          go_wp2
          go_loopw [7, 8] (fun va vb wr => ∃ a b : Nat, b = a + B2 ∧ a ≤ len ∧ va = .int .i64 a ∧ vb = .int .i64 b ∧ ∃ e, wr.rowIs g 41 (N * 5) (rc e) ∧ Hid (∃ p, a = p * (2 * B) ∧ L2 R El.i s (s + len) B p d e) ∧ w.grownBy wr (some g)) (fun va _ _ => len - (intOf va).toNat)
          case atStart => exact ⟨0, B2, by omega, Nat.zero_le _, rfl, rfl, e0, hrow0, ⟨0, by omega, HM.out.pairs⟩, hgr0⟩
          case round =>
            clear hrow0 hgr0
            obtain ⟨a, b, hb, hal, rfl, rfl, e, hrow, HL, hgr⟩ := hrel
            have hQe : Hid (∀ k, s ≤ k → k < s + len → Q (e k)) := by
              obtain ⟨q, _, hl⟩ := HL.out
              exact same_Q hl.same HQ.out
            have htr := HT0.out.grown hgr (by simpa using Ne.symm HTT.out) (by simpa using Ne.symm HGG.out) (by simpa using Ne.symm HOO.out)
            have HB := Hid.mk' hb
            obtain ⟨m, hm⟩ : ∃ x, x = a + B := ⟨_, rfl⟩
            have em : (a : Int) + (B : Int) = (m : Int) := by omega
            have HMd := Hid.mk' hm
            by_cases hlt2 : b ≤ len
            · have hsy := symMerge_any T G O n key Q R HO.out g s N len cap HTT.out HGG.out HOO.out hlen hN (b - a) a m b rfl (by omega) (by omega) hlt2 e wr htr hrow (fun k k1 k2 => hQe.out k (by omega) (by omega)) (by
                obtain ⟨q, hq, hl⟩ := HL.out
                have h2 := HB2.out
                rw [show s + m = s + a + B from by omega]
                exact hl.two (e := s + b) hq (by omega) (by omega) (by omega))
              have HSY := Hid.mk' hsy
              have HGR := Hid.mk' hgr
              unfold cmpV at HSY
              clear hsy htr hrow hb hgr hm
              go_wp2_with (first | (go_at_call 16; refine HSY.out.mono ?_; rintro _ w1 ⟨rfl, ⟨e1, hrow1, hs1, ho1⟩, hg1⟩))
              go_roundw
              case rel =>
                have hb := HB.out
                have h2 := HB2.out
                refine ⟨b, b + B2, rfl, hlt2, rfl, by go_num, e1, hrow1, ?_, grown_trans HGR.out hg1⟩
                obtain ⟨q, hq, hl⟩ := HL.out
                refine ⟨q + 1, by rw [Nat.succ_mul]; omega, hl.step hq (by omega) ?_ ?_⟩
                · rw [show s + a + 2 * B = s + b from by omega]; exact hs1
                · rw [show s + a + 2 * B = s + b from by omega]; exact ho1
              case measure => simp [intOf]; have := HB.out; omega
            · by_cases hml : m < len
              · have hsy := symMerge_any T G O n key Q R HO.out g s N len cap HTT.out HGG.out HOO.out hlen hN (len - a) a m len rfl (by omega) (by omega) (Nat.le_refl _) e wr htr hrow (fun k k1 k2 => hQe.out k (by omega) (by omega)) (by
                  obtain ⟨q, hq, hl⟩ := HL.out
                  have h2 := HB2.out
                  rw [show s + m = s + a + B from by omega]
                  exact hl.two (e := s + len) hq (by omega) (by omega) (by omega))
                have HSY := Hid.mk' hsy
                have HGR := Hid.mk' hgr
                unfold cmpV at HSY
                clear hsy htr hrow hb hgr hm
                go_wp2_with (first | (go_at_call 16; refine HSY.out.mono ?_; rintro _ w1 ⟨rfl, ⟨e1, hrow1, hs1, ho1⟩, hg1⟩))
                go_roundw
                case rel =>
                  have hb := HB.out
                  have h2 := HB2.out
                  refine ⟨B2, by omega, .inr (by omega), rfl, e1, hrow1, ?_, grown_trans HGR.out hg1⟩
                  obtain ⟨q, hq, hl⟩ := HL.out
                  rw [h2]
                  exact hl.end1 hq (by omega) hs1 ho1
                case measure => simp [intOf]; omega
              · have hml' : ¬ (m : Int) < (len : Int) := by omega
                clear htr hb hm
                go_wp2
                go_roundw
                case rel =>
                  have hm := HMd.out
                  have h2 := HB2.out
                  refine ⟨B2, by omega, .inr (by omega), rfl, e, hrow, ?_, hgr⟩
                  obtain ⟨q, hq, hl⟩ := HL.out
                  rw [h2]
                  exact hl.end2 hq hB0 (by omega)
                case measure => simp [intOf]; omega
        · go_wp2
          go_end0
          obtain ⟨h1, h2⟩ := HM.out.all (by omega)
          exact ⟨rfl, ⟨e0, hrow0, h1, h2⟩, hgr0⟩

set_option maxRecDepth 100000 in
theorem sortStable_any (T G O n : Nat) (key : Nat → ByteArray) (Q : El → Prop) (R : El → El → Prop) (ho : Ord Q key n R) (g s N len cap : Nat) (d : Nat → El) (w : World) (hT : g ≠ T) (hG : g ≠ G) (hO : g ≠ O) (ht0 : Tree w T G O n key)
    (hrow0 : w.rowIs g 41 (N * 5) (rc d)) (hlen : s + len ≤ N) (hN : N ≤ 1000000) (hQ0 : ∀ k, s ≤ k → k < s + len → Q (d k)) (hinc : ∀ k l, s ≤ k → k < l → l < s + len → (d k).i < (d l).i) :
    Calls Ybgs.prog 8 #[.slice (some ⟨g, s * 5, none⟩) len cap, cmpV T] w fun e w' => e = .returned (.tuple #[]) ∧ (∃ d', w'.rowIs g 41 (N * 5) (rc d') ∧ Same s (s + len) d d' ∧ Sorted R s (s + len) d') ∧ w.grownBy w' (some g) := by
  have HS := Hid.mk' (stable_any T G O n key Q R ho g s N len cap d w hT hG hO ht0 hrow0 hlen hN hQ0 hinc)
  clear hrow0 hQ0 hinc ht0
  unfold cmpV at HS
  go_enter Ybgs.func8, Ybgs.ntmps8
  unfold cmpV
  go_wp2_with (first | (go_at_call 10; refine HS.out.mono ?_; rintro _ w1 ⟨rfl, h1, h2⟩))
  go_end0
  exact ⟨rfl, h1, h2⟩

end Go.Proofs.YbonekuxeGreat
