/-
  'symMergeCmpFunc' where the right part is one element.
-/
import Derived.Test.YbonekuxeGreatGrow
import Derived.Test.YbonekuxeGreatSymp
namespace Go.Proofs.YbonekuxeGreat
open Go.RowKit Go.Deep Go.Proofs.YbonekuxeGreat.Plain

set_option maxRecDepth 100000 in
set_option maxHeartbeats 2000000 in
theorem symMerge_last (T G O n : Nat) (key : Nat → ByteArray) (Q : El → Prop) (R : El → El → Prop) (ho : Ord Q key n R) (g s N a m b len cap : Nat) (d : Nat → El) (w : World) (hT : g ≠ T) (hG : g ≠ G) (hO : g ≠ O) (ht0 : Tree w T G O n key)
    (hrow0 : w.rowIs g 41 (N * 5) (rc d)) (hlen : s + len ≤ N) (ham : a + 1 < m) (hm : b = m + 1) (hb : b ≤ len) (hN : N ≤ 1000000) (hQ0 : ∀ k, s + a ≤ k → k < s + b → Q (d k)) (h2 : Two R El.i (s + a) (s + m) (s + b) d) :
    Calls Ybgs.prog 16 #[.slice (some ⟨g, s * 5, none⟩) len cap, .int .i64 a, .int .i64 m, .int .i64 b, cmpV T] w fun e w' => e = .returned (.tuple #[]) ∧ (∃ d', w'.rowIs g 41 (N * 5) (rc d') ∧ Same (s + a) (s + b) d d' ∧ Sorted R (s + a) (s + b) d') ∧ w.grownBy w' (some g) := by
  have HO := Hid.mk' ho
  have HTT := Hid.mk' hT
  have HGG := Hid.mk' hG
  have HOO := Hid.mk' hO
  have HT0 := Hid.mk' ht0
  have HQ := Hid.mk' hQ0
  have HTW := Hid.mk' h2
  have HM := Hid.mk' hm
  have e0 : ((m : Int) - (a : Int) == 1) = false := by simp; omega
  have e1 : (b : Int) - (m : Int) = 1 := by omega
  have hml : m ≤ 1000000 := by omega
  have hbl : b ≤ 1000000 := by omega
  have hal : a < m := by omega
  clear ho hT hG hO ht0 hQ0 h2 hm
  go_enter Ybgs.func16, Ybgs.ntmps16
  unfold cmpV
  go_wp2
  go_loopw [14, 15] (fun vi vj wr => ∃ i j : Nat, a ≤ i ∧ i ≤ j ∧ j ≤ m ∧ vi = .int .i64 i ∧ vj = .int .i64 j ∧ Hid ((a < i → R (d (s + i - 1)) (d (s + m))) ∧ (j < m → R (d (s + m)) (d (s + j)))) ∧ w.grownBy wr none) (fun vi vj _ => (intOf vj).toNat - (intOf vi).toNat)
  case atStart => exact ⟨a, m, Nat.le_refl _, by omega, Nat.le_refl _, rfl, rfl, ⟨fun h => by omega, fun h => by omega⟩, World.grownBy.refl _ _⟩
  case round =>
    obtain ⟨i, j, hi1, hij, hjb, rfl, rfl, HI, hgr⟩ := hrel
    by_cases hlt : i < j
    · obtain ⟨h, hh⟩ : ∃ h, h = (i + j) / 2 := ⟨_, rfl⟩
      have eh : ((i : Int) + (j : Int)) / 2 = (h : Int) := by omega
      have hh1 : i ≤ h := by omega
      have hh2 : h < j := by omega
      clear hh
      have hrow := row_keep hrow0 hgr (by simp)
      have qx := HQ.out (s + m) (by omega) (by have := HM.out; omega)
      have qy := HQ.out (s + h) (by omega) (by have := HM.out; omega)
      have HD := Hid.mk' (HO.out.dec _ _ qy qx (HTW.out.cross (s + h) (s + m) (by omega) (by omega) (by omega) (by have := HM.out; omega)))
      have htr := HT0.out.grown hgr (by simp) (by simp) (by simp)
      have hcm := cmp_gr T G O n key (d (s + m)) (d (s + h)) wr htr (HO.out.bnd _ qx) (HO.out.bnd _ qy)
      obtain ⟨A, hA⟩ : ∃ A, (s + h) * 5 = A := ⟨_, rfl⟩
      obtain ⟨Z, hZ⟩ : ∃ Z, (s + m) * 5 = Z := ⟨_, rfl⟩
      have i2 : (m : Int) < (len : Int) := by have := HM.out; omega
      obtain ⟨x0, x1, x2, x3, x4⟩ := row_gr hrow (s + h) (by omega) hA
      obtain ⟨y0, y1, y2, y3, y4⟩ := row_gr hrow (s + m) (by omega) hZ
      have oa : s * 5 + h * 5 = A := by omega
      have ob : s * 5 + m * 5 = Z := by omega
      clear hA hZ hrow htr qx qy
      have i1 : (h : Int) < (len : Int) := by omega
      generalize hc : cmpE key (d (s + m)) (d (s + h)) = c at *
      have HCM := Hid.mk' hcm
      clear hcm hc
      unfold ev at HCM
      go_upto_region 17 with fail
      have hne : Nonempty (Gr wr) := ⟨⟨wr, World.grownBy.refl _ _⟩⟩
      refine wp_region_grow (by kernel_rfl) (by kernel_rfl) ?_
      repeat (go_big_quiet_step (first | (go_at_call 9; exact HCM.out _)))
      refine wpQuiet_nil ?_
      intro _ hw'
      obtain ⟨nq, hw''⟩ := hw'
      subst hw''
      have hgr := hgr.trans nq.grown
      clear x0 x1 x2 x3 x4 y0 y1 y2 y3 y4 oa ob
      generalize nq.out = W at *
      by_cases hcn : c < 0
      · have hcb : (!decide (c < 0)) = false := by simp [hcn]
        rw [hcb]
        have hr : R (d (s + m)) (d (s + h)) := by
          rcases HD.out with h | h
          · exact h.2
          · exact absurd hcn (by have := h.1; omega)
        have HR := Hid.mk' hr
        clear hr HD HCM
        go_wp2
        go_roundw
        case rel => exact ⟨i, h, by omega, by omega, by omega, rfl, by go_num, ⟨HI.out.1, fun _ => HR.out⟩, hgr⟩
        case measure => simp [intOf]; omega
      · have hcb : (!decide (c < 0)) = true := by simp; omega
        rw [hcb]
        have hr : R (d (s + h)) (d (s + m)) := by
          rcases HD.out with h | h
          · exact absurd h.1 hcn
          · exact h.2
        have HR := Hid.mk' hr
        clear hr HD HCM
        go_wp2
        go_roundw
        case rel => exact ⟨h + 1, j, by omega, by omega, hjb, by go_num, rfl, ⟨fun _ => HR.out, HI.out.2⟩, hgr⟩
        case measure => simp [intOf]; omega
    · have hrow := row_keep hrow0 hgr (by simp)
      have hij' : i = j := by omega
      obtain ⟨hres1, hres2⟩ := HI.out
      have hon := last_sorted HO.out.tr (a := s + a) (m := s + m) (i := s + i) (d := d) HTW.out.left (by omega) (by omega) (fun _ => hres1 (by omega)) (fun _ => by rw [hij']; exact hres2 (by omega))
      have HON := Hid.mk' hon
      have hml2 : m < len := by have := HM.out; omega
      have hgr0 := grown_some (g := g) hgr
      have him : i ≤ m := by omega
      clear hon hij' hres1 hres2 hrow0 HI hgr
      go_wp2
      go_loopw [17] (fun vk wr => ∃ k : Nat, i ≤ k ∧ k ≤ m ∧ vk = .int .i64 k ∧ ∃ e, Hid (e = rot d (s + k) (s + m) (s + m + 1)) ∧ wr.rowIs g 41 (N * 5) (rc e) ∧ w.grownBy wr (some g)) (fun vk _ => (intOf vk).toNat)
      case atStart => exact ⟨m, him, Nat.le_refl _, rfl, d, (rot_id_l d (s + m) (s + m + 1)).symm, hrow, hgr0⟩
      case round =>
        obtain ⟨k, hk1, hk2, rfl, e, HE, hrow, hgr⟩ := hrel
        by_cases hkp : i < k
        · obtain ⟨k1, hk1'⟩ : ∃ k1, k = k1 + 1 := ⟨k - 1, by omega⟩
          have ek : (k : Int) - 1 = (k1 : Int) := by omega
          have wk : IntKind.i64.wrap ((k : Int) - 1) = (k1 : Int) := by rw [IntKind.wrap_i64]; omega
          have wk1 : IntKind.i64.wrap (k1 : Int) = (k1 : Int) := by rw [IntKind.wrap_i64]; omega
          obtain ⟨A, hA⟩ : ∃ A, (s + k) * 5 = A := ⟨_, rfl⟩
          obtain ⟨Z, hZ⟩ : ∃ Z, (s + k1) * 5 = Z := ⟨_, rfl⟩
          obtain ⟨x0, x1, x2, x3, x4⟩ := row_five hrow (s + k) (by omega) hA
          obtain ⟨y0, y1, y2, y3, y4⟩ := row_five hrow (s + k1) (by omega) hZ
          obtain ⟨fx0, fx1, fx2, fx3, fx4⟩ := row_free hrow A
          obtain ⟨fy0, fy1, fy2, fy3, fy4⟩ := row_free hrow Z
          have HF := Hid.mk' (swap_step hrow hgr (show s + k ≠ s + k1 by omega) hA hZ)
          have oa : s * 5 + k * 5 = A := by omega
          have ob : s * 5 + k1 * 5 = Z := by omega
          have i1 : (k : Int) < (len : Int) := by omega
          have i2 : (k1 : Int) < (len : Int) := by omega
          have i3 : (0 : Int) ≤ (k1 : Int) := by omega
          have HK := Hid.mk' hk1'
          clear hA hZ hrow hgr hk1'
          go_wp2
          go_region
          go_wp2
          go_roundw
          case rel =>
            have hk := HK.out
            refine ⟨k1, by omega, by omega, by go_num, _, ?_, HF.out.1, HF.out.2⟩
            show swapAt e (s + k) (s + k1) = _
            rw [HE.out, hk]
            exact rot_down d (s + m) (s + k1) (by omega)
          case measure => simp [intOf]; have := HK.out; omega
        · obtain rfl : k = i := by omega
          go_wp2
          refine bodyPost_ret (results_none rfl _ _ _) rfl ?_
          refine ⟨rfl, ⟨e, hrow, ?_⟩, hgr⟩
          rw [HE.out, show s + b = s + m + 1 from by have := HM.out; omega]
          exact HON.out

end Go.Proofs.YbonekuxeGreat
