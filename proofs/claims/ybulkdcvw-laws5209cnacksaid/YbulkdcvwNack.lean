/-
  'LawS5209CNack' walked.
-/
import Derived.Test.YbulkdcvwSt
import Derived.Deep.DeepCutAuto
namespace Go.Proofs.Ybulkdcvw
open Go.RowKit Go.Deep Go.Proofs.Ybulkdcvw.Aid

/-- What the law is told of the names. -/
def IsStrs (w : World) (a0 : Option Addr) (n : Nat) (S : Nat → ByteArray) : Prop :=
  0 < n → ∃ b off, a0 = some ⟨b, off, none⟩ ∧ b < w.heap.size ∧ ∀ i, i < n → w.cell? ⟨b, off + i, none⟩ = some (.string (S i)) ∧ (S i).size ≤ maxLen
/-- .. of the flags. -/
def IsBools (w : World) (a1 : Option Addr) (m : Nat) (I : Nat → Bool) : Prop :=
  0 < m → ∃ b off, a1 = some ⟨b, off, none⟩ ∧ b < w.heap.size ∧ ∀ i, i < m → w.cell? ⟨b, off + i, none⟩ = some (.bool (I i))

/-- The two maps read alike, and hold the first k names. -/
def Both (B : Nat) (w wr : World) (S : Nat → ByteArray) (k : Nat) (D : DataW Unit) : Prop :=
  OwnsB wr B k D ∧ OwnsB wr (B + 1) k D ∧ (∀ i, i < k → Maps.has D (kl (S i)) = true) ∧ Below B w wr

theorem both_start (w : World) (S : Nat → ByteArray) : Both w.heap.size w ((w.alloc (.map #[] 0)).alloc (.map #[] 0)) S 0 (.map []) := by
  have h1 := (World.ownsMap_made (H := Unit) w Yba.prog 9 (plainElem Yba.prog 4)).alloc (.map #[] 0)
  have h2 := World.ownsMap_made (H := Unit) (w.alloc (.map #[] 0)) Yba.prog 9 (plainElem Yba.prog 4)
  refine ⟨h1, ?_, fun i hi => by omega, ((Below.refl _ _).alloc (Nat.le_refl _) _).alloc (by simp) _⟩
  simpa using h2

theorem both_step {B : Nat} {w wr w1 w2 : World} {S : Nat → ByteArray} {k : Nat} {D : DataW Unit} {v : Bool} (h : Both B w wr S k D) (hB : B ≤ wr.heap.size) (h1 : OwnsB w1 B (k + 1) (D.put (kl (S k)) (.lit (.bool v)))) (g1 : wr.grownBy w1 (some B))
    (h2 : OwnsB w2 (B + 1) (k + 1) (D.put (kl (S k)) (.lit (.bool v)))) (g2 : w1.grownBy w2 (some (B + 1))) : Both B w w2 S (k + 1) (D.put (kl (S k)) (.lit (.bool v))) := by
  refine ⟨h1.kept g2 (by simp), h2, fun i hi => ?_, ?_⟩
  · by_cases e : kl (S i) = kl (S k)
    · rw [e]; exact Maps.has_put_same h.1.isMap (by simp [kl, WideAt.IsKeyLit]) _
    · rw [Maps.has_put_other e]
      refine h.2.2.1 i ?_
      have : i ≠ k := fun e2 => e (by rw [e2])
      omega
  · exact Below.grown (Below.grown h.2.2.2 g1 hB (fun q hq => by simp at hq; omega)) g2 (Nat.le_trans hB g1.size) (fun q hq => by simp at hq; omega)

theorem Yba.size59 : (Yba.prog.info? 59).map (·.size) = some 24 := by kernel_rfl

theorem has_put_all {S : Nat → ByteArray} {k : Nat} {D : DataW Unit} (h : ∀ i, i < k → Maps.has D (kl (S i)) = true) (hm : Maps.IsMap D) (F : ByteArray) : ∀ i, i < k → Maps.has (D.put (kl F) (.lit (.bool true))) (kl (S i)) = true := by
  intro i hi
  by_cases e : kl (S i) = kl F
  · rw [e]; exact Maps.has_put_same hm (by simp [kl, WideAt.IsKeyLit]) _
  · rw [Maps.has_put_other e]; exact h i hi

set_option maxRecDepth 100000 in
set_option maxHeartbeats 2000000 in
theorem nack_walk (a0 a1 : Option Addr) (n cap m cap1 : Nat) (S : Nat → ByteArray) (I : Nat → Bool) (s : Nat) (same : Bool) (F0 : ByteArray) (pk : Nat) (np : Bool) (w : World) (hn : n ≤ 1024) (hm : m ≤ maxLen) (_hs : s < 18446744073709551616) (hF0 : F0.size ≤ maxLen) (hpk : pk < 256)
    (HD : IsStrs w a0 n S) (HI : IsBools w a1 m I) :
    Calls Yba.prog 4 #[.slice a0 n cap, .slice a1 m cap1, .int .u64 s, .bool same, .string F0, .int .u8 pk, .bool np] w fun e w' => e = .returned (.bool true) ∧ Below w.heap.size w w' := by
  have hmm := @run_makeMap Yba.prog
  have hst := both_start w S
  unfold maxLen at hm
  have HF0 := Hid.mk' hF0
  clear hF0
  go_enter Yba.func4, Yba.ntmps4
  go_wp2
  go_loopw [37] (fun i wr => ∃ k : Nat, k ≤ n ∧ i = .int .i64 k ∧ w.heap.size + 1 < wr.heap.size ∧ ∃ D, Both w.heap.size w wr S k D) (fun i _ => n - (intOf i).toNat)
  case atStart => exact ⟨0, Nat.zero_le _, rfl, by simp, _, hst⟩
  case round =>
    obtain ⟨k, hkn, rfl, hsz, D, hbo⟩ := hrel
    clear hmm hst
    by_cases hlt : k < n
    · obtain ⟨b, off, rfl, hb, hc⟩ := HD (by omega)
      obtain ⟨c0, hsk⟩ := hc k hlt
      rw [← hbo.2.2.2.cell (by exact hb)] at c0
      have HSK := Hid.mk' hsk
      have HBO := Hid.mk' hbo
      have hkm : k < maxLen := by unfold maxLen; omega
      have HKM := Hid.mk' hkm
      clear hc HD hsk hbo hkm
      by_cases hkm2 : k < m
      · obtain ⟨b1, off1, rfl, hb1, hc1⟩ := HI (by omega)
        have c1 := (HBO.out.2.2.2.cell (p := ⟨b1, off1 + k, none⟩) hb1).trans (hc1 k hkm2)
        clear hc1 HI
        go_wp2_with (first | (at_mapUpdate; refine wpList_mapUpdate_own _ rfl (.tmp 52) (.tmp 53) (.tmp 54) 53 rfl 9 4 (Maps.string_keyed Yba.underlying9) Yba.underlying53 _ w.heap.size k D rfl HBO.out.1 HKM.out _ _ _ rfl rfl (key_of _ HSK.out) _ [] (plainElem_bool Yba.underlying4 (I k)) ?_; intro w1 ho1 hg1) | (at_mapUpdate; refine wpList_mapUpdate_own _ rfl (.tmp 55) (.tmp 56) (.tmp 57) 53 rfl 9 4 (Maps.string_keyed Yba.underlying9) Yba.underlying53 _ (w.heap.size + 1) k D rfl (HBO.out.2.1.kept hg1 (by simp)) HKM.out _ _ _ rfl rfl (key_of _ HSK.out) _ [] (plainElem_bool Yba.underlying4 (I k)) ?_; intro w2 ho2 hg2))
        have hs1 := hg1.size
        have hs2 := hg2.size
        have hfin := both_step HBO.out (by omega) ho1 hg1 ho2 hg2
        go_roundw
        case rel => exact ⟨k + 1, by omega, by go_num, by omega, _, hfin⟩
        case measure => simp [intOf]; omega
      · have hg0 : decide ((k : Int) < (m : Int)) = false := decide_eq_false (by omega)
        clear HI
        go_wp2_with (first | (at_mapUpdate; refine wpList_mapUpdate_own _ rfl (.tmp 52) (.tmp 53) (.tmp 54) 53 rfl 9 4 (Maps.string_keyed Yba.underlying9) Yba.underlying53 _ w.heap.size k D rfl HBO.out.1 HKM.out _ _ _ rfl rfl (key_of _ HSK.out) _ [] (plainElem_bool Yba.underlying4 false) ?_; intro w1 ho1 hg1) | (at_mapUpdate; refine wpList_mapUpdate_own _ rfl (.tmp 55) (.tmp 56) (.tmp 57) 53 rfl 9 4 (Maps.string_keyed Yba.underlying9) Yba.underlying53 _ (w.heap.size + 1) k D rfl (HBO.out.2.1.kept hg1 (by simp)) HKM.out _ _ _ rfl rfl (key_of _ HSK.out) _ [] (plainElem_bool Yba.underlying4 false) ?_; intro w2 ho2 hg2))
        have hs1 := hg1.size
        have hs2 := hg2.size
        have hfin := both_step HBO.out (by omega) ho1 hg1 ho2 hg2
        go_roundw
        case rel => exact ⟨k + 1, by omega, by go_num, by omega, _, hfin⟩
        case measure => simp [intOf]; omega
    · obtain rfl : k = n := by omega
      clear HI
      go_upto_if 61 with fail
      go_cut [4] (fun v wc => ∃ F : ByteArray, v = .string F ∧ F.size ≤ maxLen ∧ wc = wr)
      case first =>
        by_cases h0 : 0 < k
        · by_cases hsel : pk % (k + 1) < k
          · obtain ⟨b, off, rfl, hb, hc⟩ := HD h0
            obtain ⟨c0, hsz2⟩ := hc (pk % (k + 1)) hsel
            rw [← hbo.2.2.2.cell (by exact hb)] at c0
            have HSZ := Hid.mk' hsz2
            have hmod : (pk : Int) % ((k : Int) + 1) = ((pk % (k + 1) : Nat) : Int) := by simp
            generalize pk % (k + 1) = sel at *
            clear hc HD hsz2 hbo
            go_wp2
            go_meet
            case rel => exact ⟨_, rfl, HSZ.out, rfl⟩
          · have hmod : (pk : Int) % ((k : Int) + 1) = (k : Int) := by
              have h1 : pk % (k + 1) < k + 1 := Nat.mod_lt _ (by omega)
              have h2 : ((pk % (k + 1) : Nat) : Int) = (pk : Int) % ((k : Int) + 1) := by simp
              rw [← h2]
              omega
            clear HD hbo hsel
            go_wp2
            go_meet
            case rel => exact ⟨_, rfl, HF0.out, rfl⟩
        · clear HD hbo
          go_wp2
          go_meet
          case rel => exact ⟨_, rfl, HF0.out, rfl⟩
      case rest =>
        obtain ⟨F, rfl, hF, rfl⟩ := hcut
        have h38 := nodeC_38
        have h38s := nodeC_size
        have hsz2 : w.heap.size < wc.heap.size := by omega
        clear HF0
        go_upto_region 18 with (first | (refine wpList_build_at rfl 59 #[(1, .tmp 76), (11, .tmp 77)] rfl #[(1, .int .u64 s), (11, .map (some w.heap.size))] rfl _ (run_build59 _ _ _) ?_) | (refine wpList_build_at rfl 123 #[] rfl #[] rfl _ (run_build123 _) ?_) | (refine wpList_box_at rfl 59 (.tmp 78) rfl _ rfl ?_) | (refine wpList_box_at rfl 123 (.tmp 80) rfl _ rfl ?_))
        have hSt := st_new (s := (s : Int)) hbo.1 hbo.2.1 hbo.2.2.2 hsz
        have HAS := Hid.mk' hbo.2.2.1
        generalize ((wc.alloc (.cells (ppC (s : Int) w.heap.size) 59)).alloc (.cells nodeC 123)) = W at *
        generalize wc.heap.size = pb at *
        have hfar := hSt.far
        have hsize := hSt.size
        clear hbo h38 h38s hsz hsz2
        have HST := Hid.mk' hSt
        have pr0 := hSt.probing
        have fr0 := hSt.free
        clear hSt
        cases np with
        | true =>
          cases same with
          | true =>
            go_wp2_with (refine wpList_build_at rfl 47 #[(1, .tmp 94), (2, .tmp 95)] rfl #[(1, .int .u64 s), (2, .string F)] rfl _ (run_build47n _ _ _) ?_)
            refine (nack_nil (pb + 1) _ F W pr0).mono ?_
            rintro e W2 ⟨rfl, hb2⟩
            have HS2 := Hid.mk' (HST.out.later hb2)
            clear HST hb2 pr0 fr0
            have t1 := HS2.out.probing
            have t2 := HS2.out.seq
            have t3 := HS2.out.ans
            go_wp2_with (first | (at_len; refine wpList_len_own _ rfl (.tmp 136) 53 rfl 9 4 Yba.underlying53 _ w.heap.size k D rfl HS2.out.hlp ?_) | (at_len; refine wpList_len_own _ rfl (.tmp 138) 53 rfl 9 4 Yba.underlying53 _ (w.heap.size + 1) k D rfl HS2.out.want ?_))
            go_loop [143] (fun i => ∃ q : Nat, q ≤ k ∧ i = .int .i64 q) (fun i => k - (intOf i).toNat)
            case atStart => exact ⟨0, Nat.zero_le _, rfl⟩
            case round =>
              obtain ⟨q, hqk, rfl⟩ := hrel
              by_cases hlt2 : q < k
              · obtain ⟨b, off, rfl, hb, hc⟩ := HD (by omega)
                obtain ⟨c0, hsq⟩ := hc q hlt2
                rw [← HS2.out.bel.cell (by exact hb)] at c0
                obtain ⟨x, hx, hlk⟩ := look_bool HS2.out.hlp (S q) hsq
                obtain ⟨y, hy, hlk2⟩ := look_bool HS2.out.want (S q) hsq
                have l1 := (hlk W2 rfl).1
                have l2 := (hlk2 W2 rfl).2
                rw [HAS.out q hlt2] at l1
                obtain rfl : x = y := by rw [hx] at hy; simpa using hy
                clear hx hy hlk hlk2 hc HD hsq t1 t2 t3
                go_wp2
                go_roundw
                case rel => exact ⟨q + 1, by omega, by go_num⟩
                case measure => simp [intOf]; omega
              · go_wp2
                go_ret
                exact ⟨rfl, HS2.out.bel⟩
          | false =>
            go_wp2_with (refine wpList_build_at rfl 47 #[(1, .tmp 94), (2, .tmp 95)] rfl #[(1, .int .u64 (((s : Int) + 1) % 18446744073709551616)), (2, .string F)] rfl _ (run_build47n _ _ _) ?_)
            refine (nack_nil (pb + 1) _ F W pr0).mono ?_
            rintro e W2 ⟨rfl, hb2⟩
            have HS2 := Hid.mk' (HST.out.later hb2)
            clear HST hb2 pr0 fr0
            have t1 := HS2.out.probing
            have t2 := HS2.out.seq
            have t3 := HS2.out.ans
            go_wp2_with (first | (at_len; refine wpList_len_own _ rfl (.tmp 136) 53 rfl 9 4 Yba.underlying53 _ w.heap.size k D rfl HS2.out.hlp ?_) | (at_len; refine wpList_len_own _ rfl (.tmp 138) 53 rfl 9 4 Yba.underlying53 _ (w.heap.size + 1) k D rfl HS2.out.want ?_))
            go_loop [143] (fun i => ∃ q : Nat, q ≤ k ∧ i = .int .i64 q) (fun i => k - (intOf i).toNat)
            case atStart => exact ⟨0, Nat.zero_le _, rfl⟩
            case round =>
              obtain ⟨q, hqk, rfl⟩ := hrel
              by_cases hlt2 : q < k
              · obtain ⟨b, off, rfl, hb, hc⟩ := HD (by omega)
                obtain ⟨c0, hsq⟩ := hc q hlt2
                rw [← HS2.out.bel.cell (by exact hb)] at c0
                obtain ⟨x, hx, hlk⟩ := look_bool HS2.out.hlp (S q) hsq
                obtain ⟨y, hy, hlk2⟩ := look_bool HS2.out.want (S q) hsq
                have l1 := (hlk W2 rfl).1
                have l2 := (hlk2 W2 rfl).2
                rw [HAS.out q hlt2] at l1
                obtain rfl : x = y := by rw [hx] at hy; simpa using hy
                clear hx hy hlk hlk2 hc HD hsq t1 t2 t3
                go_wp2
                go_roundw
                case rel => exact ⟨q + 1, by omega, by go_num⟩
                case measure => simp [intOf]; omega
              · go_wp2
                go_ret
                exact ⟨rfl, HS2.out.bel⟩
        | false =>
          cases same with
          | true =>
            have hpn := run_neq_pointer_same (P := Yba.prog) 54 59 23 Yba.underlying54 Yba.size59
            have hS1 := HST.out.put (.pointer (some ⟨pb, 0, none⟩))
            have pr1 := hS1.probing
            have sq1 := hS1.seq
            have hm1 := hS1.hmap
            have HS1 := Hid.mk' hS1
            have HC1 := Hid.mk' (nack_same (pb + 1) pb w.heap.size k (s : Int) F D _ pr1 sq1 hm1 hS1.hlp hF (by unfold maxLen; omega))
            clear hS1 hm1
            go_wp2_with (refine wpList_build_at rfl 47 #[(1, .tmp 94), (2, .tmp 95)] rfl #[(1, .int .u64 s), (2, .string F)] rfl _ (run_build47n _ _ _) ?_)
            refine HC1.out.mono ?_
            rintro e W2 ⟨rfl, ho2, hg2⟩
            have hS2 := HS1.out.wrote ho2 hg2
            obtain ⟨y, _, hlkw⟩ := look_bool hS2.want F hF
            have lw := (hlkw W2 rfl).1
            clear HST HS1 HC1 ho2 hg2 pr0 fr0 pr1 sq1 hlkw
            cases hh : Maps.has D (kl F) with
            | false =>
              rw [hh] at lw hS2
              have HS2 : Hid (St w.heap.size pb w W2 (s : Int) (k + 1) D k D (.pointer (some ⟨pb, 0, none⟩))) := hS2
              clear hS2 hh
              have t1 := HS2.out.probing
              have t2 := HS2.out.seq
              have t3 := HS2.out.ans
              go_wp2_with (first | (at_len; refine wpList_len_own _ rfl (.tmp 136) 53 rfl 9 4 Yba.underlying53 _ w.heap.size (k + 1) D rfl HS2.out.hlp ?_) | (at_len; refine wpList_len_own _ rfl (.tmp 138) 53 rfl 9 4 Yba.underlying53 _ (w.heap.size + 1) k D rfl HS2.out.want ?_))
              go_loop [143] (fun i => ∃ q : Nat, q ≤ k ∧ i = .int .i64 q) (fun i => k - (intOf i).toNat)
              case atStart => exact ⟨0, Nat.zero_le _, rfl⟩
              case round =>
                obtain ⟨q, hqk, rfl⟩ := hrel
                by_cases hlt2 : q < k
                · obtain ⟨b, off, rfl, hb, hc⟩ := HD (by omega)
                  obtain ⟨c0, hsq⟩ := hc q hlt2
                  rw [← HS2.out.bel.cell (by exact hb)] at c0
                  obtain ⟨x, hx, hlk⟩ := look_bool HS2.out.hlp (S q) hsq
                  obtain ⟨y, hy, hlk2⟩ := look_bool HS2.out.want (S q) hsq
                  have l1 := (hlk W2 rfl).1
                  have l2 := (hlk2 W2 rfl).2
                  rw [HAS.out q hlt2] at l1
                  obtain rfl : x = y := by rw [hx] at hy; simpa using hy
                  clear hx hy hlk hlk2 hc HD hsq t1 t2 t3
                  go_wp2
                  go_roundw
                  case rel => exact ⟨q + 1, by omega, by go_num⟩
                  case measure => simp [intOf]; omega
                · go_wp2
                  go_ret
                  exact ⟨rfl, HS2.out.bel⟩
            | true =>
              rw [hh] at lw hS2
              have HS2 : Hid (St w.heap.size pb w W2 (s : Int) (k + 1) (D.put (kl F) (.lit (.bool true))) k D (.pointer (some ⟨pb, 0, none⟩))) := hS2
              have HKM : Hid (k < maxLen) := (by unfold maxLen; omega : k < maxLen)
              have HFS := Hid.mk' hF
              have HAS2 := Hid.mk' (has_put_all HAS.out HS2.out.want.isMap F)
              clear hS2 hh
              go_wp2_with (at_mapUpdate; refine wpList_mapUpdate_own _ rfl (.tmp 110) (.tmp 111) (.const (.bool true)) 53 rfl 9 4 (Maps.string_keyed Yba.underlying9) Yba.underlying53 _ (w.heap.size + 1) k D rfl HS2.out.want HKM.out _ _ _ rfl rfl (key_of _ HFS.out) _ [] (plainElem_bool Yba.underlying4 true) ?_)
              intro W3 ho3 hg3
              have HS3 := Hid.mk' (HS2.out.wrote2 ho3 hg3)
              clear HS2 ho3 hg3 lw
              have t1 := HS3.out.probing
              have t2 := HS3.out.seq
              have t3 := HS3.out.ans
              go_wp2_with (first | (at_len; refine wpList_len_own _ rfl (.tmp 136) 53 rfl 9 4 Yba.underlying53 _ w.heap.size (k + 1) (D.put (kl F) (.lit (.bool true))) rfl HS3.out.hlp ?_) | (at_len; refine wpList_len_own _ rfl (.tmp 138) 53 rfl 9 4 Yba.underlying53 _ (w.heap.size + 1) (k + 1) (D.put (kl F) (.lit (.bool true))) rfl HS3.out.want ?_))
              go_loop [143] (fun i => ∃ q : Nat, q ≤ k ∧ i = .int .i64 q) (fun i => k - (intOf i).toNat)
              case atStart => exact ⟨0, Nat.zero_le _, rfl⟩
              case round =>
                obtain ⟨q, hqk, rfl⟩ := hrel
                by_cases hlt2 : q < k
                · obtain ⟨b, off, rfl, hb, hc⟩ := HD (by omega)
                  obtain ⟨c0, hsq⟩ := hc q hlt2
                  rw [← HS3.out.bel.cell (by exact hb)] at c0
                  obtain ⟨x, hx, hlk⟩ := look_bool HS3.out.hlp (S q) hsq
                  obtain ⟨y, hy, hlk2⟩ := look_bool HS3.out.want (S q) hsq
                  have l1 := (hlk W3 rfl).1
                  have l2 := (hlk2 W3 rfl).2
                  rw [HAS2.out q hlt2] at l1
                  obtain rfl : x = y := by rw [hx] at hy; simpa using hy
                  clear hx hy hlk hlk2 hc HD hsq t1 t2 t3
                  go_wp2
                  go_roundw
                  case rel => exact ⟨q + 1, by omega, by go_num⟩
                  case measure => simp [intOf]; omega
                · go_wp2
                  go_ret
                  exact ⟨rfl, HS3.out.bel⟩
          | false =>
            have hpn := run_neq_pointer_same (P := Yba.prog) 54 59 23 Yba.underlying54 Yba.size59
            have hS1 := HST.out.put (.pointer (some ⟨pb, 0, none⟩))
            have pr1 := hS1.probing
            have sq1 := hS1.seq
            have HS1 := Hid.mk' hS1
            clear hS1
            go_wp2_with (refine wpList_build_at rfl 47 #[(1, .tmp 94), (2, .tmp 95)] rfl #[(1, .int .u64 (((s : Int) + 1) % 18446744073709551616)), (2, .string F)] rfl _ (run_build47n _ _ _) ?_)
            refine (nack_other (pb + 1) pb _ _ F _ pr1 sq1 (by simp; omega)).mono ?_
            rintro e W2 ⟨rfl, hb2⟩
            have HS2 := Hid.mk' (HS1.out.later hb2)
            clear HST HS1 hb2 pr0 fr0 pr1 sq1
            have t1 := HS2.out.probing
            have t2 := HS2.out.seq
            have t3 := HS2.out.ans
            go_wp2_with (first | (at_len; refine wpList_len_own _ rfl (.tmp 136) 53 rfl 9 4 Yba.underlying53 _ w.heap.size k D rfl HS2.out.hlp ?_) | (at_len; refine wpList_len_own _ rfl (.tmp 138) 53 rfl 9 4 Yba.underlying53 _ (w.heap.size + 1) k D rfl HS2.out.want ?_))
            go_loop [143] (fun i => ∃ q : Nat, q ≤ k ∧ i = .int .i64 q) (fun i => k - (intOf i).toNat)
            case atStart => exact ⟨0, Nat.zero_le _, rfl⟩
            case round =>
              obtain ⟨q, hqk, rfl⟩ := hrel
              by_cases hlt2 : q < k
              · obtain ⟨b, off, rfl, hb, hc⟩ := HD (by omega)
                obtain ⟨c0, hsq⟩ := hc q hlt2
                rw [← HS2.out.bel.cell (by exact hb)] at c0
                obtain ⟨x, hx, hlk⟩ := look_bool HS2.out.hlp (S q) hsq
                obtain ⟨y, hy, hlk2⟩ := look_bool HS2.out.want (S q) hsq
                have l1 := (hlk W2 rfl).1
                have l2 := (hlk2 W2 rfl).2
                rw [HAS.out q hlt2] at l1
                obtain rfl : x = y := by rw [hx] at hy; simpa using hy
                clear hx hy hlk hlk2 hc HD hsq t1 t2 t3
                go_wp2
                go_roundw
                case rel => exact ⟨q + 1, by omega, by go_num⟩
                case measure => simp [intOf]; omega
              · go_wp2
                go_ret
                exact ⟨rfl, HS2.out.bel⟩

end Go.Proofs.Ybulkdcvw
