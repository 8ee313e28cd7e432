/-
  'symMergeCmpFunc' in general, the middle lying in the left part.
-/
import Derived.Test.YbonekuxeGreatSym1
import Derived.Test.YbonekuxeGreatSym2
import Derived.Test.YbonekuxeGreatRot
namespace Go.Proofs.YbonekuxeGreat
open Go.RowKit Go.Deep Go.Proofs.YbonekuxeGreat.Plain

/-- what symMerge is asked to do, at any world -/
def SymDoes (T G O n : Nat) (key : Nat → ByteArray) (Q : El → Prop) (R : El → El → Prop) (g s N len cap a m b : Nat) : Prop :=
  ∀ (d : Nat → El) (w : World), Tree w T G O n key → w.rowIs g 41 (N * 5) (rc d) → (∀ k, s + a ≤ k → k < s + b → Q (d k)) → Two R El.i (s + a) (s + m) (s + b) d →
    Calls Ybgs.prog 16 #[.slice (some ⟨g, s * 5, none⟩) len cap, .int .i64 a, .int .i64 m, .int .i64 b, cmpV T] w fun e w' => e = .returned (.tuple #[]) ∧ (∃ d', w'.rowIs g 41 (N * 5) (rc d') ∧ Same (s + a) (s + b) d d' ∧ Sorted R (s + a) (s + b) d') ∧ w.grownBy w' (some g)

set_option maxRecDepth 100000 in
set_option maxHeartbeats 8000000 in
theorem symMerge_hi (T G O n : Nat) (key : Nat → ByteArray) (Q : El → Prop) (R : El → El → Prop) (ho : Ord Q key n R) (g s N a m b len cap : Nat) (hT : g ≠ T) (hG : g ≠ G) (hO : g ≠ O)
    (hlen : s + len ≤ N) (ham : a + 1 < m) (hmb : m + 1 < b) (hb : b ≤ len) (hN : N ≤ 1000000) (hside : (a + b) / 2 < m)
    (ih : ∀ a' m' b', a ≤ a' → b' ≤ b → b' - a' < b - a → a' < m' → m' < b' → SymDoes T G O n key Q R g s N len cap a' m' b') : SymDoes T G O n key Q R g s N len cap a m b := by
  intro d w ht0 hrow0 hQ0 h2
  have HO := Hid.mk' ho
  have HTT := Hid.mk' hT
  have HGG := Hid.mk' hG
  have HOO := Hid.mk' hO
  have HT0 := Hid.mk' ht0
  have HQ := Hid.mk' hQ0
  have HTW := Hid.mk' h2
  have IH := Hid.mk' ih
  have e0 : ((m : Int) - (a : Int) == 1) = false := by simp; omega
  have e1 : ((b : Int) - (m : Int) == 1) = false := by simp; omega
  clear ho hT hG hO ht0 hQ0 h2 ih
  obtain ⟨mid, hmid⟩ : ∃ x, x = (a + b) / 2 := ⟨_, rfl⟩
  rw [← hmid] at hside
  have em : ((a : Int) + (b : Int)) / 2 = (mid : Int) := by omega
  have hm1 : a < mid := by omega
  have hm2 : mid < b := by omega
  have hm3 : 2 * mid ≤ a + b := by omega
  have hm4 : a + b ≤ 2 * mid + 1 := by omega
  clear hmid
  obtain ⟨nn, hnn⟩ : ∃ x, x = mid + m := ⟨_, rfl⟩
  have en : (mid : Int) + (m : Int) = (nn : Int) := by omega
  obtain ⟨s0, r0, hs0⟩ : ∃ s0 r0 : Nat, (mid < m ∧ s0 + b = nn ∧ r0 = mid) ∨ (m ≤ mid ∧ s0 = a ∧ r0 = m) := ⟨nn - b, mid, .inl ⟨hside, by omega, rfl⟩⟩
  have es : (nn : Int) - (b : Int) = (s0 : Int) := by omega
  have er : (r0 : Int) = (mid : Int) := by omega
  have HS0 := Hid.mk' hs0
  have HNN := Hid.mk' hnn
  have HR0 : Hid (r0 = mid) := by show r0 = mid; omega
  clear er
  clear hnn hs0
  have hnl : nn ≤ 2000000 := by have := HNN.out; omega
  have f1 : a ≤ s0 := by have := HS0.out; have := HNN.out; omega
  have f2 : s0 ≤ r0 := by have := HS0.out; have := HNN.out; omega
  have f3 : r0 ≤ m := by have := HS0.out; omega
  have f4 : r0 ≤ mid := by have := HS0.out; omega
  have f5 : nn ≤ s0 + b := by have := HS0.out; have := HNN.out; omega
  obtain ⟨pp, hpp⟩ : ∃ x, nn = x + 1 := ⟨nn - 1, by have := HNN.out; omega⟩
  have ep : (nn : Int) - 1 = (pp : Int) := by omega
  have HPP := Hid.mk' hpp
  clear hpp
  go_enter Ybgs.func16, Ybgs.ntmps16
  unfold cmpV
  go_wp2
  go_loopw [20, 21] (fun vs vr wr => ∃ st r : Nat, s0 ≤ st ∧ st ≤ r ∧ r ≤ r0 ∧ vs = .int .i64 st ∧ vr = .int .i64 r ∧ Hid ((s0 < st → R (d (s + (st - 1))) (d (s + (nn - st)))) ∧ (r < r0 → R (d (s + (nn - r - 1))) (d (s + r)))) ∧ w.grownBy wr none) (fun vs vr _ => (intOf vr).toNat - (intOf vs).toNat)
  case atStart => exact ⟨s0, r0, Nat.le_refl _, f2, Nat.le_refl _, rfl, by rw [HR0.out], ⟨fun h => by omega, fun h => by omega⟩, World.grownBy.refl _ _⟩
  case round =>
    obtain ⟨st, r, hst1, hst2, hst3, rfl, rfl, HI, hgr⟩ := hrel
    by_cases hlt : st < r
    · obtain ⟨c, hh⟩ : ∃ c, c = (st + r) / 2 := ⟨_, rfl⟩
      have eh : ((st : Int) + (r : Int)) / 2 = (c : Int) := by omega
      have hh1 : st ≤ c := by omega
      have hh2 : c < r := by omega
      clear hh
      obtain ⟨pc, hpc⟩ : ∃ x, pp = x + c := ⟨pp - c, by have := HPP.out; have := HNN.out; omega⟩
      have epc : (pp : Int) - (c : Int) = (pc : Int) := by omega
      have wpc : IntKind.i64.wrap ((pp : Int) - (c : Int)) = (pc : Int) := by rw [IntKind.wrap_i64]; omega
      have wpc1 : IntKind.i64.wrap (pc : Int) = (pc : Int) := by rw [IntKind.wrap_i64]; have := HPP.out; omega
      have k1 : m ≤ pc := by have := HPP.out; have := HNN.out; omega
      have k2 : pc < b := by have := HPP.out; have := HNN.out; omega
      have HPC := Hid.mk' hpc
      clear hpc
      have hrow := row_keep hrow0 hgr (by simp)
      have qx := HQ.out (s + pc) (by omega) (by omega)
      have qy := HQ.out (s + c) (by omega) (by omega)
      have HD := Hid.mk' (HO.out.dec _ _ qy qx (HTW.out.cross (s + c) (s + pc) (by omega) (by omega) (by omega) (by omega)))
      have htr := HT0.out.grown hgr (by simp) (by simp) (by simp)
      have hcm := cmp_gr T G O n key (d (s + pc)) (d (s + c)) wr htr (HO.out.bnd _ qx) (HO.out.bnd _ qy)
      obtain ⟨A, hA⟩ : ∃ A, (s + pc) * 5 = A := ⟨_, rfl⟩
      obtain ⟨Z, hZ⟩ : ∃ Z, (s + c) * 5 = Z := ⟨_, rfl⟩
      obtain ⟨x0, x1, x2, x3, x4⟩ := row_gr hrow (s + pc) (by omega) hA
      obtain ⟨y0, y1, y2, y3, y4⟩ := row_gr hrow (s + c) (by omega) hZ
      have oa : s * 5 + pc * 5 = A := by omega
      have ob : s * 5 + c * 5 = Z := by omega
      clear hA hZ hrow htr qx qy
      have i1 : (pc : Int) < (len : Int) := by omega
      have i2 : (c : Int) < (len : Int) := by omega
      generalize hc : cmpE key (d (s + pc)) (d (s + c)) = cc at *
      have HCM := Hid.mk' hcm
      clear hcm hc
      unfold ev at HCM
      go_upto_region 35 with fail
      have hne : Nonempty (Gr wr) := ⟨⟨wr, World.grownBy.refl _ _⟩⟩
      refine wp_region_grow (by kernel_rfl) (by kernel_rfl) ?_
      repeat (go_big_quiet_step (first | (go_at_call 9; exact HCM.out _)))
      refine wpQuiet_nil ?_
      intro _ hw'
      obtain ⟨nq, hw''⟩ := hw'
      subst hw''
      have hgr := hgr.trans nq.grown
      clear x0 x1 x2 x3 x4 y0 y1 y2 y3 y4 oa ob
      generalize nq.out = W at *
      by_cases hcn : cc < 0
      · have hcb : (!decide (cc < 0)) = false := by simp [hcn]
        rw [hcb]
        have hr : R (d (s + pc)) (d (s + c)) := by
          rcases HD.out with h | h
          · exact h.2
          · exact absurd hcn (by have := h.1; omega)
        have HR := Hid.mk' hr
        clear hr HD HCM
        go_wp2
        go_roundw
        case rel => exact ⟨st, c, by omega, by omega, by omega, rfl, by go_num, ⟨HI.out.1, fun _ => by rw [show nn - c - 1 = pc from by have := HPC.out; have := HPP.out; omega]; exact HR.out⟩, hgr⟩
        case measure => simp [intOf]; omega
      · have hcb : (!decide (cc < 0)) = true := by simp; omega
        rw [hcb]
        have hr : R (d (s + c)) (d (s + pc)) := by
          rcases HD.out with h | h
          · exact absurd h.1 hcn
          · exact h.2
        have HR := Hid.mk' hr
        clear hr HD HCM
        go_wp2
        go_roundw
        case rel => exact ⟨c + 1, r, by omega, by omega, hst3, by go_num, rfl, ⟨fun _ => by rw [show nn - (c + 1) = pc from by have := HPC.out; have := HPP.out; omega]; exact HR.out, HI.out.2⟩, hgr⟩
        case measure => simp [intOf]; omega
    · obtain rfl : st = r := by omega
      have hrow := row_keep hrow0 hgr (by simp)
      have htr := HT0.out.grown hgr (by simp) (by simp) (by simp)
      obtain ⟨ee, hee⟩ : ∃ x, nn = x + st := ⟨nn - st, by have := HNN.out; omega⟩
      have eee : (nn : Int) - (st : Int) = (ee : Int) := by omega
      have k1 : m ≤ ee := by have := HNN.out; omega
      have k2 : ee ≤ b := by omega
      have k3 : st ≤ m := by omega
      have k4 : st ≤ mid := by omega
      have k5 : mid ≤ ee := by have := HNN.out; omega
      have hh := halves_of HO.out.tr (s := s + st) (e := s + ee) (mid := s + mid) HTW.out (by omega) (by omega) (by omega) (by omega) (by have := HNN.out; omega)
        (fun _ h => by have h3 := HI.out.1 (by have := HS0.out; omega); rw [show s + (st - 1) = s + st - 1 from by omega, show nn - st = ee from by omega] at h3; exact h3)
        (fun h _ => by have h3 := HI.out.2 (by have := HS0.out; have := HNN.out; omega); rw [show s + (nn - st - 1) = s + ee - 1 from by omega] at h3; exact h3)
      have HEE := Hid.mk' hee
      have HH := Hid.mk' hh
      have hgr0 := grown_some (g := g) hgr
      clear hee hh hgr HI hrow0
      have HTR := Hid.mk' htr
      clear htr
      obtain ⟨d1, hd1⟩ : ∃ d1, d1 = rot d (s + st) (s + m) (s + ee) := ⟨_, rfl⟩
      rw [← hd1] at HH
      have HD1 := Hid.mk' hd1
      clear hd1
      have HROW := Hid.mk' hrow
      have HGR0 := Hid.mk' hgr0
      clear hrow hgr0
      have HQ1 : Hid (∀ k, s + a ≤ k → k < s + b → Q (d1 k)) := same_Q HH.out.1 HQ.out
      have q1 : st ≤ mid := k4
      have q2 : ee + st = mid + m := by have := HNN.out; have := HEE.out; omega
      have HQ2 := Hid.mk' q2
      by_cases hA1 : st < m
      · by_cases hA2 : m < ee
        · have hB2 : st < mid := by omega
          have hC1 : mid < ee := by omega
          clear q2
          by_cases hB1 : a < st
          · by_cases hC2 : ee < b
            · have q2 := HQ2.out
              have hro := rotate_any g s N st m ee len cap d (.func (.func 9) #[.pointer (some ⟨T, 0, none⟩)] #[]) wr HROW.out hlen (by omega) (by omega) (by omega) hN
              have HRO := Hid.mk' hro
              clear hro
              try clear q2
              go_wp2_with fail
              refine HRO.out.mono ?_
              rintro _ w1 ⟨rfl, hrow1, hg1⟩
              have HW1 : Hid (w1.rowIs g 41 (N * 5) (rc d1) ∧ w.grownBy w1 (some g) ∧ Tree w1 T G O n key) := ⟨by rw [HD1.out]; exact hrow1, grown_trans HGR0.out hg1, HTR.out.grown hg1 (by simpa using Ne.symm HTT.out) (by simpa using Ne.symm HGG.out) (by simpa using Ne.symm HOO.out)⟩
              clear hrow1 hg1 HRO
              have h1 := IH.out a st mid (Nat.le_refl _) (by omega) (by omega) (by omega) (by omega) d1 w1 HW1.out.2.2 HW1.out.1 (fun k k1 k2 => HQ1.out k k1 (by omega)) HH.out.2.lo
              unfold cmpV at h1
              have H1 := Hid.mk' h1
              clear h1
              try clear q2
              go_wp2_with fail
              refine H1.out.mono ?_
              rintro _ w2 ⟨rfl, ⟨d2, hrow2, hs2, ho2⟩, hg2⟩
              have HW2 : Hid ((w2.rowIs g 41 (N * 5) (rc d2) ∧ w.grownBy w2 (some g) ∧ Tree w2 T G O n key) ∧ Same (s + a) (s + mid) d1 d2 ∧ Sorted R (s + a) (s + mid) d2) := ⟨⟨hrow2, grown_trans HW1.out.2.1 hg2, HW1.out.2.2.grown hg2 (by simpa using Ne.symm HTT.out) (by simpa using Ne.symm HGG.out) (by simpa using Ne.symm HOO.out)⟩, hs2, ho2⟩
              clear hrow2 hs2 ho2 hg2 H1 HW1
              have HTWO : Hid (Two R El.i (s + mid) (s + ee) (s + b) d2) := HH.out.2.hi.congr (fun k k1 k2 => HW2.out.2.1.out k (by omega)) (by omega) (by omega)
              have h2 := IH.out mid ee b (by omega) (Nat.le_refl _) (by omega) (by omega) (by omega) d2 w2 HW2.out.1.2.2 HW2.out.1.1 (fun k k1 k2 => by rw [HW2.out.2.1.out k (by omega)]; exact HQ1.out k (by omega) k2) HTWO.out
              unfold cmpV at h2
              have H2 := Hid.mk' h2
              clear h2
              try clear q2
              go_wp2_with fail
              refine H2.out.mono ?_
              rintro _ w3 ⟨rfl, ⟨d3, hrow3, hs3, ho3⟩, hg3⟩
              try clear q2
              go_wp2
              go_end0
              obtain ⟨j1, j2⟩ := halves_join HH.out.2.cut (by omega) (by omega) HW2.out.2.1 HW2.out.2.2 hs3 ho3
              exact ⟨rfl, ⟨d3, hrow3, HH.out.1.trans j1, j2⟩, grown_trans HW2.out.1.2.1 hg3⟩
            · have q2 := HQ2.out
              have hro := rotate_any g s N st m ee len cap d (.func (.func 9) #[.pointer (some ⟨T, 0, none⟩)] #[]) wr HROW.out hlen (by omega) (by omega) (by omega) hN
              have HRO := Hid.mk' hro
              clear hro
              try clear q2
              go_wp2_with fail
              refine HRO.out.mono ?_
              rintro _ w1 ⟨rfl, hrow1, hg1⟩
              have HW1 : Hid (w1.rowIs g 41 (N * 5) (rc d1) ∧ w.grownBy w1 (some g) ∧ Tree w1 T G O n key) := ⟨by rw [HD1.out]; exact hrow1, grown_trans HGR0.out hg1, HTR.out.grown hg1 (by simpa using Ne.symm HTT.out) (by simpa using Ne.symm HGG.out) (by simpa using Ne.symm HOO.out)⟩
              clear hrow1 hg1 HRO
              have h1 := IH.out a st mid (Nat.le_refl _) (by omega) (by omega) (by omega) (by omega) d1 w1 HW1.out.2.2 HW1.out.1 (fun k k1 k2 => HQ1.out k k1 (by omega)) HH.out.2.lo
              unfold cmpV at h1
              have H1 := Hid.mk' h1
              clear h1
              try clear q2
              go_wp2_with fail
              refine H1.out.mono ?_
              rintro _ w2 ⟨rfl, ⟨d2, hrow2, hs2, ho2⟩, hg2⟩
              have HW2 : Hid ((w2.rowIs g 41 (N * 5) (rc d2) ∧ w.grownBy w2 (some g) ∧ Tree w2 T G O n key) ∧ Same (s + a) (s + mid) d1 d2 ∧ Sorted R (s + a) (s + mid) d2) := ⟨⟨hrow2, grown_trans HW1.out.2.1 hg2, HW1.out.2.2.grown hg2 (by simpa using Ne.symm HTT.out) (by simpa using Ne.symm HGG.out) (by simpa using Ne.symm HOO.out)⟩, hs2, ho2⟩
              clear hrow2 hs2 ho2 hg2 H1 HW1
              have HTWO : Hid (Two R El.i (s + mid) (s + ee) (s + b) d2) := HH.out.2.hi.congr (fun k k1 k2 => HW2.out.2.1.out k (by omega)) (by omega) (by omega)
              try clear q2
              go_wp2
              go_end0
              obtain ⟨j1, j2⟩ := halves_join HH.out.2.cut (by omega) (by omega) HW2.out.2.1 HW2.out.2.2 (Same.refl _ _ _) (HTWO.out.whole (by omega))
              exact ⟨rfl, ⟨d2, HW2.out.1.1, HH.out.1.trans j1, j2⟩, HW2.out.1.2.1⟩
          · by_cases hC2 : ee < b
            · have q2 := HQ2.out
              have hro := rotate_any g s N st m ee len cap d (.func (.func 9) #[.pointer (some ⟨T, 0, none⟩)] #[]) wr HROW.out hlen (by omega) (by omega) (by omega) hN
              have HRO := Hid.mk' hro
              clear hro
              try clear q2
              go_wp2_with fail
              refine HRO.out.mono ?_
              rintro _ w1 ⟨rfl, hrow1, hg1⟩
              have HW1 : Hid (w1.rowIs g 41 (N * 5) (rc d1) ∧ w.grownBy w1 (some g) ∧ Tree w1 T G O n key) := ⟨by rw [HD1.out]; exact hrow1, grown_trans HGR0.out hg1, HTR.out.grown hg1 (by simpa using Ne.symm HTT.out) (by simpa using Ne.symm HGG.out) (by simpa using Ne.symm HOO.out)⟩
              clear hrow1 hg1 HRO
              have HW2 : Hid ((w1.rowIs g 41 (N * 5) (rc d1) ∧ w.grownBy w1 (some g) ∧ Tree w1 T G O n key) ∧ Same (s + a) (s + mid) d1 d1 ∧ Sorted R (s + a) (s + mid) d1) := ⟨HW1.out, Same.refl _ _ _, HH.out.2.lo.whole (by omega)⟩
              clear HW1
              have HTWO : Hid (Two R El.i (s + mid) (s + ee) (s + b) d1) := HH.out.2.hi.congr (fun k k1 k2 => HW2.out.2.1.out k (by omega)) (by omega) (by omega)
              have h2 := IH.out mid ee b (by omega) (Nat.le_refl _) (by omega) (by omega) (by omega) d1 w1 HW2.out.1.2.2 HW2.out.1.1 (fun k k1 k2 => by rw [HW2.out.2.1.out k (by omega)]; exact HQ1.out k (by omega) k2) HTWO.out
              unfold cmpV at h2
              have H2 := Hid.mk' h2
              clear h2
              try clear q2
              go_wp2_with fail
              refine H2.out.mono ?_
              rintro _ w3 ⟨rfl, ⟨d3, hrow3, hs3, ho3⟩, hg3⟩
              try clear q2
              go_wp2
              go_end0
              obtain ⟨j1, j2⟩ := halves_join HH.out.2.cut (by omega) (by omega) HW2.out.2.1 HW2.out.2.2 hs3 ho3
              exact ⟨rfl, ⟨d3, hrow3, HH.out.1.trans j1, j2⟩, grown_trans HW2.out.1.2.1 hg3⟩
            · have q2 := HQ2.out
              have hro := rotate_any g s N st m ee len cap d (.func (.func 9) #[.pointer (some ⟨T, 0, none⟩)] #[]) wr HROW.out hlen (by omega) (by omega) (by omega) hN
              have HRO := Hid.mk' hro
              clear hro
              try clear q2
              go_wp2_with fail
              refine HRO.out.mono ?_
              rintro _ w1 ⟨rfl, hrow1, hg1⟩
              have HW1 : Hid (w1.rowIs g 41 (N * 5) (rc d1) ∧ w.grownBy w1 (some g) ∧ Tree w1 T G O n key) := ⟨by rw [HD1.out]; exact hrow1, grown_trans HGR0.out hg1, HTR.out.grown hg1 (by simpa using Ne.symm HTT.out) (by simpa using Ne.symm HGG.out) (by simpa using Ne.symm HOO.out)⟩
              clear hrow1 hg1 HRO
              have HW2 : Hid ((w1.rowIs g 41 (N * 5) (rc d1) ∧ w.grownBy w1 (some g) ∧ Tree w1 T G O n key) ∧ Same (s + a) (s + mid) d1 d1 ∧ Sorted R (s + a) (s + mid) d1) := ⟨HW1.out, Same.refl _ _ _, HH.out.2.lo.whole (by omega)⟩
              clear HW1
              have HTWO : Hid (Two R El.i (s + mid) (s + ee) (s + b) d1) := HH.out.2.hi.congr (fun k k1 k2 => HW2.out.2.1.out k (by omega)) (by omega) (by omega)
              try clear q2
              go_wp2
              go_end0
              obtain ⟨j1, j2⟩ := halves_join HH.out.2.cut (by omega) (by omega) HW2.out.2.1 HW2.out.2.2 (Same.refl _ _ _) (HTWO.out.whole (by omega))
              exact ⟨rfl, ⟨d1, HW2.out.1.1, HH.out.1.trans j1, j2⟩, HW2.out.1.2.1⟩
        · have hB2 : ¬ st < mid := by omega
          have hC2 : ee < b := by omega
          have hB1 : a < st := by omega
          clear q2
          by_cases hC1 : mid < ee
          · have q2 := HQ2.out
            have HW1 : Hid (wr.rowIs g 41 (N * 5) (rc d1) ∧ w.grownBy wr (some g) ∧ Tree wr T G O n key) := by
              refine ⟨?_, HGR0.out, HTR.out⟩
              rw [HD1.out]
              have hor : st = m ∨ m = ee := by omega
              rcases hor with h | h
              · rw [h, rot_id_l]; exact HROW.out
              · rw [← h, rot_id_r]; exact HROW.out
            have HW2 : Hid ((wr.rowIs g 41 (N * 5) (rc d1) ∧ w.grownBy wr (some g) ∧ Tree wr T G O n key) ∧ Same (s + a) (s + mid) d1 d1 ∧ Sorted R (s + a) (s + mid) d1) := ⟨HW1.out, Same.refl _ _ _, HH.out.2.lo.whole (by omega)⟩
            clear HW1
            have HTWO : Hid (Two R El.i (s + mid) (s + ee) (s + b) d1) := HH.out.2.hi.congr (fun k k1 k2 => HW2.out.2.1.out k (by omega)) (by omega) (by omega)
            have h2 := IH.out mid ee b (by omega) (Nat.le_refl _) (by omega) (by omega) (by omega) d1 wr HW2.out.1.2.2 HW2.out.1.1 (fun k k1 k2 => by rw [HW2.out.2.1.out k (by omega)]; exact HQ1.out k (by omega) k2) HTWO.out
            unfold cmpV at h2
            have H2 := Hid.mk' h2
            clear h2
            try clear q2
            go_wp2_with fail
            refine H2.out.mono ?_
            rintro _ w3 ⟨rfl, ⟨d3, hrow3, hs3, ho3⟩, hg3⟩
            try clear q2
            go_wp2
            go_end0
            obtain ⟨j1, j2⟩ := halves_join HH.out.2.cut (by omega) (by omega) HW2.out.2.1 HW2.out.2.2 hs3 ho3
            exact ⟨rfl, ⟨d3, hrow3, HH.out.1.trans j1, j2⟩, grown_trans HW2.out.1.2.1 hg3⟩
          · have q2 := HQ2.out
            have HW1 : Hid (wr.rowIs g 41 (N * 5) (rc d1) ∧ w.grownBy wr (some g) ∧ Tree wr T G O n key) := by
              refine ⟨?_, HGR0.out, HTR.out⟩
              rw [HD1.out]
              have hor : st = m ∨ m = ee := by omega
              rcases hor with h | h
              · rw [h, rot_id_l]; exact HROW.out
              · rw [← h, rot_id_r]; exact HROW.out
            have HW2 : Hid ((wr.rowIs g 41 (N * 5) (rc d1) ∧ w.grownBy wr (some g) ∧ Tree wr T G O n key) ∧ Same (s + a) (s + mid) d1 d1 ∧ Sorted R (s + a) (s + mid) d1) := ⟨HW1.out, Same.refl _ _ _, HH.out.2.lo.whole (by omega)⟩
            clear HW1
            have HTWO : Hid (Two R El.i (s + mid) (s + ee) (s + b) d1) := HH.out.2.hi.congr (fun k k1 k2 => HW2.out.2.1.out k (by omega)) (by omega) (by omega)
            try clear q2
            go_wp2
            go_end0
            obtain ⟨j1, j2⟩ := halves_join HH.out.2.cut (by omega) (by omega) HW2.out.2.1 HW2.out.2.2 (Same.refl _ _ _) (HTWO.out.whole (by omega))
            exact ⟨rfl, ⟨d1, HW2.out.1.1, HH.out.1.trans j1, j2⟩, HW2.out.1.2.1⟩
      · have hC1 : ¬ mid < ee := by omega
        have hB1 : a < st := by omega
        clear q2
        by_cases hB2 : st < mid
        · have q2 := HQ2.out
          have HW1 : Hid (wr.rowIs g 41 (N * 5) (rc d1) ∧ w.grownBy wr (some g) ∧ Tree wr T G O n key) := by
            refine ⟨?_, HGR0.out, HTR.out⟩
            rw [HD1.out]
            have hor : st = m ∨ m = ee := by omega
            rcases hor with h | h
            · rw [h, rot_id_l]; exact HROW.out
            · rw [← h, rot_id_r]; exact HROW.out
          have h1 := IH.out a st mid (Nat.le_refl _) (by omega) (by omega) (by omega) (by omega) d1 wr HW1.out.2.2 HW1.out.1 (fun k k1 k2 => HQ1.out k k1 (by omega)) HH.out.2.lo
          unfold cmpV at h1
          have H1 := Hid.mk' h1
          clear h1
          try clear q2
          go_wp2_with fail
          refine H1.out.mono ?_
          rintro _ w2 ⟨rfl, ⟨d2, hrow2, hs2, ho2⟩, hg2⟩
          have HW2 : Hid ((w2.rowIs g 41 (N * 5) (rc d2) ∧ w.grownBy w2 (some g) ∧ Tree w2 T G O n key) ∧ Same (s + a) (s + mid) d1 d2 ∧ Sorted R (s + a) (s + mid) d2) := ⟨⟨hrow2, grown_trans HW1.out.2.1 hg2, HW1.out.2.2.grown hg2 (by simpa using Ne.symm HTT.out) (by simpa using Ne.symm HGG.out) (by simpa using Ne.symm HOO.out)⟩, hs2, ho2⟩
          clear hrow2 hs2 ho2 hg2 H1 HW1
          have HTWO : Hid (Two R El.i (s + mid) (s + ee) (s + b) d2) := HH.out.2.hi.congr (fun k k1 k2 => HW2.out.2.1.out k (by omega)) (by omega) (by omega)
          try clear q2
          go_wp2
          go_end0
          obtain ⟨j1, j2⟩ := halves_join HH.out.2.cut (by omega) (by omega) HW2.out.2.1 HW2.out.2.2 (Same.refl _ _ _) (HTWO.out.whole (by omega))
          exact ⟨rfl, ⟨d2, HW2.out.1.1, HH.out.1.trans j1, j2⟩, HW2.out.1.2.1⟩
        · have q2 := HQ2.out
          have HW1 : Hid (wr.rowIs g 41 (N * 5) (rc d1) ∧ w.grownBy wr (some g) ∧ Tree wr T G O n key) := by
            refine ⟨?_, HGR0.out, HTR.out⟩
            rw [HD1.out]
            have hor : st = m ∨ m = ee := by omega
            rcases hor with h | h
            · rw [h, rot_id_l]; exact HROW.out
            · rw [← h, rot_id_r]; exact HROW.out
          have HW2 : Hid ((wr.rowIs g 41 (N * 5) (rc d1) ∧ w.grownBy wr (some g) ∧ Tree wr T G O n key) ∧ Same (s + a) (s + mid) d1 d1 ∧ Sorted R (s + a) (s + mid) d1) := ⟨HW1.out, Same.refl _ _ _, HH.out.2.lo.whole (by omega)⟩
          clear HW1
          have HTWO : Hid (Two R El.i (s + mid) (s + ee) (s + b) d1) := HH.out.2.hi.congr (fun k k1 k2 => HW2.out.2.1.out k (by omega)) (by omega) (by omega)
          try clear q2
          go_wp2
          go_end0
          obtain ⟨j1, j2⟩ := halves_join HH.out.2.cut (by omega) (by omega) HW2.out.2.1 HW2.out.2.2 (Same.refl _ _ _) (HTWO.out.whole (by omega))
          exact ⟨rfl, ⟨d1, HW2.out.1.1, HH.out.1.trans j1, j2⟩, HW2.out.1.2.1⟩

end Go.Proofs.YbonekuxeGreat
