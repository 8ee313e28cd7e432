/-
  'LawS5203BFilter' walked: it answers true and writes nothing that was there.
-/
import Derived.Test.YbulkdcsqCapt
import Derived.Deep.QuietTactic
import Derived.BigQuiet
namespace Go.Proofs.Ybulkdcsq
open Go.RowKit Go.Deep Go.Proofs.Ybulkdcsq.Aid

theorem Yba.info26 : (Yba.prog.info? 26).map (fun i => (i.zero, i.size, i.bytes)) = some (some (.agg #[.string ByteArray.empty, .bool false, .string ByteArray.empty, .slice none 0 0, .bool false, .bool false, .int .i64 0, .int .i64 0, .slice none 0 0]), 9, 112) := by kernel_rfl

theorem bcell_even {o : Option Value} {pb : Nat} {C K : Nat → Int} {j : Nat} (h : o = some (bcell pb C K (j * 2))) : o = some (.int .i64 (C j)) := by
  rw [h]; simp only [bcell]; rw [if_pos (by omega), show j * 2 / 2 = j from by omega]
theorem bcell_odd {o : Option Value} {pb : Nat} {C K : Nat → Int} {j : Nat} (h : o = some (bcell pb C K (j * 2 + 1))) : o = some (node pb (K j)) := by
  rw [h]; simp only [bcell]; rw [if_neg (by omega), show (j * 2 + 1) / 2 = j from by omega]
theorem node_ptr (pb : Nat) (k : Int) : ∃ ad, node pb k = .pointer ad := by unfold node; split <;> exact ⟨_, rfl⟩

set_option maxHeartbeats 1000000 in
theorem law_pos (b off n cap : Nat) (C K : Nat → Int) (id : Int) (w : World) (h0 : 0 < n) (hk : ∀ i, i < n → 0 ≤ K i ∧ K i ≤ 255)
    (hc0 : ∀ i, i < n → w.cell? ⟨b, off + i * 2, none⟩ = some (.int .i64 (C i))) (hc1 : ∀ i, i < n → w.cell? ⟨b, off + i * 2 + 1, none⟩ = some (.int .u8 (K i))) :
    Calls Yba.prog 3 #[.slice (some ⟨b, off, none⟩) n cap, .int .i64 id] w fun e w' => e = .returned (.bool true) ∧ Below w.heap.size w w' := by
  have hbB : b < w.heap.size := World.block_lt_of_cell? w _ (hc0 0 h0)
  by_cases hn : n ≤ 1024
  case neg =>
    have hn' : 1024 < n := by omega
    go_enter Yba.func3, Yba.ntmps3
    go_wp2
    go_ret
    exact ⟨rfl, Below.refl _ _⟩
  obtain ⟨i0, hi, hz0, hz1, hz2⟩ := info_parts Yba.info35
  have hmk := fun w : World => run_make (P := Yba.prog) w 27 35 i0 _ Yba.underlying27 hi hz0 .i64 .i64 n n (by omega) (Int.le_refl _) (by rw [hz2]; omega) (by omega)
  simp only [hz1, Int.toNat_natCast] at hmk
  obtain ⟨i1, hi1, hy0, hy1, hy2⟩ := info_parts Yba.info26
  have hmk1 := fun w : World => run_make (P := Yba.prog) w 23 26 i1 _ Yba.underlying23 hi1 hy0 .i64 .i64 4 4 (by omega) (Int.le_refl _) (by rw [hy2]; omega) (by omega)
  simp only [hy1] at hmk1
  go_enter Yba.func3, Yba.ntmps3
  go_wp2
  go_loopw [6] (fun i wr => ∃ k : Nat, k ≤ 4 ∧ i = .int .i64 k ∧ (∃ f, wr.rowIs w.heap.size 26 36 f) ∧ Below w.heap.size w wr) (fun i _ => 4 - (intOf i).toNat)
  case atStart => exact ⟨0, Nat.zero_le _, rfl, ⟨_, rowIs_made_wide _ _ _ _⟩, (Below.refl _ _).alloc (Nat.le_refl _) _⟩
  case round =>
    obtain ⟨k, hk4, rfl, ⟨f, hrow⟩, hnx⟩ := hrel
    by_cases hlt : k < 4
    · have r0 := hrow.cell (i := k * 9 + 6) (by omega)
      have r1 := hrow.cell (i := k * 9 + 7) (by omega)
      have z0 := hrow.frozen (k * 9 + 6)
      have z1 := hrow.frozen (k * 9 + 7)
      go_wp2
      go_roundw
      case rel => exact ⟨k + 1, by omega, by go_num, ⟨_, (hrow.set _ _).set _ _⟩, (hnx.setCell (Nat.le_refl _) _).setCell (Nat.le_refl _) _⟩
      case measure => simp [intOf]; omega
    · clear hrow hmk1
      go_wp2_with fail
      have hnx0 := hnx
      refine (build_any b off n cap w.heap.size C K wr hn hk (fun i hi => (hnx.cell (by exact hbB)).trans (hc0 i hi)) (fun i hi => (hnx.cell (by exact hbB)).trans (hc1 i hi))).mono ?_
      rintro e w2 ⟨rfl, hrow2, hb2⟩
      have hb02 : Below w.heap.size w w2 := hnx.trans (hb2.mono hnx.size)
      obtain ⟨g, hg⟩ : ∃ g, wr.heap.size = g := ⟨_, rfl⟩
      rw [hg] at hrow2 ⊢
      have hgw : w.heap.size ≤ g := hg ▸ hnx.size
      clear hnx hb2 hg
      go_wp2_with (refine wpList_copy_wide rfl (.tmp 40) (.tmp 41) 27 27 rfl 35 2 w2.heap.size g n 35 35 _ _ rfl rfl Yba.underlying27 (by simp [hi, hz1]) (rowIs_made_wide _ _ _ _) (hrow2.alloc _) ?c1 ?_)
      case c1 =>
        intro i _
        unfold bcell node
        split
        · rfl
        · split <;> rfl
      intro w3 hsav hgr
      have hb23 : Below w2.heap.size w2 w3 := Below.grown ((Below.refl _ _).alloc (Nat.le_refl _) _) hgr (by simp) (fun k hk => by simp at hk; omega)
      have hb03 : Below w.heap.size w w3 := hb02.trans (hb23.mono hb02.size)
      have hrow3 := rowIs_below hrow2 hb23 hrow2.lt
      obtain ⟨s, hs⟩ : ∃ s, w2.heap.size = s := ⟨_, rfl⟩
      rw [hs] at hsav ⊢
      have hws : w.heap.size ≤ s := hs ▸ hb02.size
      clear hgr hb23 hb02 hrow2 hs hmk
      go_wp2_with fail
      refine (capt_any n g w.heap.size C K id w3 hn hrow3).mono ?_
      rintro e w4 ⟨v, rfl, hown4, hnil4, hb34⟩
      have hb04 : Below w.heap.size w w4 := hb03.trans (hb34.mono hb03.size)
      have hrow4 := rowIs_below hrow3 hb34 hrow3.lt
      have hsav4 := rowIs_below hsav hb34 hsav.lt
      have hx0 : ∀ i, i < n → w4.cell? ⟨b, off + i * 2, none⟩ = some (.int .i64 (C i)) := fun i hi => (hb04.cell (by exact hbB)).trans (hc0 i hi)
      have hx1 : ∀ i, i < n → w4.cell? ⟨b, off + i * 2 + 1, none⟩ = some (.int .u8 (K i)) := fun i hi => (hb04.cell (by exact hbB)).trans (hc1 i hi)
      have hb4 : b < w4.heap.size := Nat.lt_of_lt_of_le hbB hb04.size
      clear hb34 hb03 hrow3 hsav hc0 hc1
      obtain ⟨i3, hi3, hx30, hx31, hx32⟩ := info_parts Yba.info33
      go_wp2
      go_loopw [10, 11] (fun v i wr => ∃ k : Nat, k ≤ n ∧ i = .int .i64 k ∧ wr.ownsRow w4.heap.size 33 1 v (kept w.heap.size C K id k).length (kept w.heap.size C K id k) ∧ Below w4.heap.size w4 wr)
        (fun _ i _ => n - (intOf i).toNat)
      case atStart => exact ⟨0, Nat.zero_le _, rfl, World.ownsRow_nil _ _ _ _, Below.refl _ _⟩
      case round =>
        obtain ⟨k, hkn, rfl, hown, hnx⟩ := hrel
        by_cases hlt : k < n
        · have g0 := (hnx.cell (p := ⟨b, off + k * 2, none⟩) (by exact hb4)).trans (hx0 k hlt)
          have g1 := (hnx.cell (p := ⟨b, off + k * 2 + 1, none⟩) (by exact hb4)).trans (hx1 k hlt)
          obtain ⟨hK0, hK1⟩ := hk k hlt
          have hkl := kept_le w.heap.size C K id k
          clear hx0 hx1 hk
          by_cases h4 : C k = id
          · have h4' : (C k == id) = true := by simp [h4]
            have H4 : Hid (C k = id) := h4
            clear h4
            by_cases h5 : K k % 5 < 4
            · go_wp2_with (at_builtin; refine wpList_append_own _ rfl (.tmp 68) (.tmp 72) 29 rfl w4.heap.size 33 i3 (.pointer none) 1 8 Yba.underlying29 hi3 hx30 hx31 hx32 rfl (by decide) _ _ _ rfl (hown.alloc _) ⟨wr.heap.size, 0, none⟩ 1 1 [.pointer (some ⟨w.heap.size, (K k % 5).toNat * 9, none⟩)] rfl rfl ?c1 ?c2 ?c3 ?c4 ?c5 ?_)
              case c1 => exact cell_one_new _ _ _
              case c2 => intro u hu; simp at hu; subst hu; rfl
              case c3 => unfold maxLen; omega
              case c4 => omega
              case c5 => have := hnx.size; simp; omega
              intro v' w1 hown' hgrow hnil'
              go_wp2
              have hE := kept_hit (pb := w.heap.size) (K := K) (v := .pointer (some ⟨w.heap.size, (K k % 5).toNat * 9, none⟩)) H4.out (by simp [node, h5])
              go_roundw
              case rel =>
                refine ⟨k + 1, by omega, by go_num, ?_, ?_⟩
                · rw [hE]; simpa using hown'
                · refine Below.grown (hnx.alloc hnx.size _) hgrow ?_ ?_
                  · have := hnx.size; simp; omega
                  · exact fun q hq => (hown.lt q hq).1
              case measure => simp [intOf]; omega
            · go_wp2_with (at_builtin; refine wpList_append_own _ rfl (.tmp 74) (.tmp 75) 29 rfl w4.heap.size 33 i3 (.pointer none) 1 8 Yba.underlying29 hi3 hx30 hx31 hx32 rfl (by decide) _ _ _ rfl (hown.alloc _) ⟨wr.heap.size, 0, none⟩ 1 1 [.pointer none] rfl rfl ?d1 ?d2 ?d3 ?d4 ?d5 ?_)
              case d2 => first | rfl | (intro u hu; simp at hu; subst hu; rfl)
              case d3 => unfold maxLen; omega
              case d4 => omega
              case d5 => have := hnx.size; simp; omega
              intro v' w1 hown' hgrow hnil'
              go_wp2
              have hE := kept_hit (pb := w.heap.size) (K := K) (v := .pointer none) H4.out (by simp [node, h5])
              go_roundw
              case rel =>
                refine ⟨k + 1, by omega, by go_num, ?_, ?_⟩
                · rw [hE]; simpa using hown'
                · refine Below.grown (hnx.alloc hnx.size _) hgrow ?_ ?_
                  · have := hnx.size; simp; omega
                  · exact fun q hq => (hown.lt q hq).1
              case measure => simp [intOf]; omega
          · have h4' : (C k == id) = false := by simp [h4]
            have H4 : Hid (¬ C k = id) := h4
            clear h4
            go_wp2
            have hE := kept_miss (pb := w.heap.size) (K := K) H4.out
            go_roundw
            case rel => exact ⟨k + 1, by omega, by go_num, by rw [hE]; exact hown, hnx⟩
            case measure => simp [intOf]; omega
        · obtain rfl : k = n := by omega
          obtain ⟨bo, bc, rfl, hbo⟩ := own_shape hown
          obtain ⟨ao, ac, rfl, hao⟩ := own_shape (ownsRow_below hown4 hnx)
          have hkl := kept_le w.heap.size C K id k
          have hz : ao.isNone = (((kept w.heap.size C K id k).length : Int) == 0) := by
            by_cases hL : kept w.heap.size C K id k = []
            · have := hnil4 hL
              simp only [Value.slice.injEq] at this
              simp [this.1, hL]
            · have hp : 0 < (kept w.heap.size C K id k).length := List.length_pos_iff.2 hL
              obtain ⟨g4, rfl, _⟩ := hao hp
              simp; omega
          have hq : ∀ w' : World, (binOp .eql 29 (.slice ao (kept w.heap.size C K id k).length ac) (.slice none 0 0)).run Yba.prog w' = .ok (.bool (((kept w.heap.size C K id k).length : Int) == 0)) w' := fun w' => by
            rw [← hz]; exact Lib.run_eql_slice_nil (P := Yba.prog) w' 29 33 ao _ ac 0 0 Yba.underlying29
          clear hz
          have hptr := kept_ptr w.heap.size C K id k
          generalize hLL : (kept w.heap.size C K id k).length = L at *
          have HX : Hid ((kept w.heap.size C K id k).length = L) := hLL
          clear hLL hnil4 hown hown4
          obtain ⟨q, hq0⟩ : ∃ q : Bool, ((L : Int) == 0) = q := ⟨_, rfl⟩
          rw [hq0] at hq
          have hrow5 := rowIs_below hrow4 hnx hrow4.lt
          have hsav5 := rowIs_below hsav4 hnx hsav4.lt
          have hb05 := hb04.trans (hnx.mono hb04.size)
          clear hrow4 hsav4 hb04 hx0 hx1 hk
          obtain ⟨w5, rfl⟩ : ∃ w5 : World, w5 = wr := ⟨_, rfl⟩
          clear hnx
          go_wp2
          go_loopw [13] (fun i wr => ∃ j : Nat, j ≤ L ∧ i = .int .i64 j ∧ Below w5.heap.size w5 wr) (fun i _ => L - (intOf i).toNat)
          case atStart => exact ⟨0, Nat.zero_le _, rfl, Below.refl _ _⟩
          case round =>
            obtain ⟨j, hjL, rfl, hnx⟩ := hrel
            by_cases hlt2 : j < L
            · obtain ⟨g4, rfl, hg4, hac⟩ := hao (by omega)
              obtain ⟨g5, rfl, hg5, hbc⟩ := hbo (by omega)
              have x0 := (hnx.cell (p := ⟨g4, j, none⟩) (by exact hg4)).trans (hac j hlt2)
              have x1 := (hnx.cell (p := ⟨g5, j, none⟩) (by exact hg5)).trans (hbc j hlt2)
              clear hac hbc hao hbo
              have hjk : j < (kept w.heap.size C K id k).length := by rw [HX.out]; exact hlt2
              rw [List.getElem?_eq_getElem hjk] at x0 x1
              obtain ⟨pa, hpa⟩ := hptr _ (List.getElem_mem hjk)
              rw [hpa] at x0 x1
              clear hjk hpa hptr hq hq0
              have hpn := run_neq_pointer_same (P := Yba.prog) 33 26 8 Yba.underlying33 (by simp [hi1, hy1])
              have i0 : (0 : Int) ≤ (j : Int) := by omega
              have i1 : (j : Int) < (L : Int) := by omega
              go_wp2
              go_quiet (fail)
              go_wp2
              go_roundw
              case rel => exact ⟨j + 1, by omega, by go_num, below_drewN hnx _⟩
              case measure => simp [intOf]; omega
            · clear hq hq0 hptr hao hbo
              have hrow6 := rowIs_below hrow5 hnx hrow5.lt
              have hsav6 := rowIs_below hsav5 hnx hsav5.lt
              have hb06 := hb05.trans (hnx.mono hb05.size)
              clear hrow5 hsav5 hb05
              obtain ⟨w6, rfl⟩ : ∃ w6 : World, w6 = wr := ⟨_, rfl⟩
              clear hnx
              go_wp2
              go_loopw [14] (fun i wr => ∃ j : Nat, j ≤ k ∧ i = .int .i64 j ∧ Below w6.heap.size w6 wr) (fun i _ => k - (intOf i).toNat)
              case atStart => exact ⟨0, Nat.zero_le _, rfl, Below.refl _ _⟩
              case round =>
                obtain ⟨j, hjL, rfl, hnx2⟩ := hrel
                by_cases hlt3 : j < k
                · have a0 := bcell_even (hrow6.cell (i := j * 2) (by omega))
                  have a1 := bcell_odd (hrow6.cell (i := j * 2 + 1) (by omega))
                  have a2 := bcell_even (hsav6.cell (i := j * 2) (by omega))
                  have a3 := bcell_odd (hsav6.cell (i := j * 2 + 1) (by omega))
                  rw [← hnx2.cell (by exact hrow6.lt)] at a0 a1
                  rw [← hnx2.cell (by exact hsav6.lt)] at a2 a3
                  obtain ⟨ad, had⟩ := node_ptr w.heap.size (K j)
                  rw [had] at a1 a3
                  clear had hrow6 hsav6 hb06
                  have hpn := run_neq_pointer_same (P := Yba.prog) 33 26 8 Yba.underlying33 (by simp [hi1, hy1])
                  have i0 : (0 : Int) ≤ (j : Int) := by omega
                  have i1 : (j : Int) < (k : Int) := by omega
                  go_wp2
                  go_quiet (fail)
                  go_wp2
                  go_roundw
                  case rel => exact ⟨j + 1, by omega, by go_num, below_drewN hnx2 _⟩
                  case measure => simp [intOf]; omega
                · go_wp2
                  go_ret
                  exact ⟨rfl, hb06.trans (hnx2.mono hb06.size)⟩

set_option maxHeartbeats 1000000 in
theorem law_zero (ao : Option Addr) (cap : Nat) (id : Int) (w : World) :
    Calls Yba.prog 3 #[.slice ao 0 cap, .int .i64 id] w fun e w' => e = .returned (.bool true) ∧ Below w.heap.size w w' := by
  obtain ⟨i0, hi, hz0, hz1, hz2⟩ := info_parts Yba.info35
  have hmk := fun w : World => run_make (P := Yba.prog) w 27 35 i0 _ Yba.underlying27 hi hz0 .i64 .i64 0 0 (by omega) (Int.le_refl _) (by omega) (by omega)
  simp only [hz1] at hmk
  obtain ⟨i1, hi1, hy0, hy1, hy2⟩ := info_parts Yba.info26
  have hmk1 := fun w : World => run_make (P := Yba.prog) w 23 26 i1 _ Yba.underlying23 hi1 hy0 .i64 .i64 4 4 (by omega) (Int.le_refl _) (by rw [hy2]; omega) (by omega)
  simp only [hy1] at hmk1
  go_enter Yba.func3, Yba.ntmps3
  go_wp2
  go_loopw [6] (fun i wr => ∃ k : Nat, k ≤ 4 ∧ i = .int .i64 k ∧ (∃ f, wr.rowIs w.heap.size 26 36 f) ∧ Below w.heap.size w wr) (fun i _ => 4 - (intOf i).toNat)
  case atStart => exact ⟨0, Nat.zero_le _, rfl, ⟨_, rowIs_made_wide _ _ _ _⟩, (Below.refl _ _).alloc (Nat.le_refl _) _⟩
  case round =>
    obtain ⟨k, hk4, rfl, ⟨f, hrow⟩, hnx⟩ := hrel
    by_cases hlt : k < 4
    · have r0 := hrow.cell (i := k * 9 + 6) (by omega)
      have r1 := hrow.cell (i := k * 9 + 7) (by omega)
      have z0 := hrow.frozen (k * 9 + 6)
      have z1 := hrow.frozen (k * 9 + 7)
      go_wp2
      go_roundw
      case rel => exact ⟨k + 1, by omega, by go_num, ⟨_, (hrow.set _ _).set _ _⟩, (hnx.setCell (Nat.le_refl _) _).setCell (Nat.le_refl _) _⟩
      case measure => simp [intOf]; omega
    · clear hrow hmk1
      go_wp2_with fail
      refine (build_zero ao cap _ wr).mono ?_
      rintro e w2 ⟨bo, rfl, hb2⟩
      have hb02 : Below w.heap.size w w2 := hnx.trans (hb2.mono hnx.size)
      clear hnx hb2
      have hcp := fun (w : World) (d a : Option Addr) => run_copy_zero (P := Yba.prog) w 27 27 3 35 d a Yba.underlying27 (by rw [hi]; rfl)
      have hq := fun (w : World) (a : Option Addr) (n c n' c' : Nat) => Lib.run_eql_slice_nil (P := Yba.prog) w 29 33 a n c n' c' Yba.underlying29
      go_wp2_with (go_at_call 5; refine (capt_zero _ _ _ _).mono ?_; rintro e w' ⟨rfl, rfl⟩)
      refine wp_loop_rounds 1 ?_
      rw [rounds_succ]
      go_wp2
      refine wp_loop_rounds 1 ?_
      rw [rounds_succ]
      go_wp2
      refine wp_loop_rounds 1 ?_
      rw [rounds_succ]
      go_wp2
      go_ret
      exact ⟨rfl, hb02.alloc hb02.size _⟩

end Go.Proofs.Ybulkdcsq
