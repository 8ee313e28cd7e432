/-
  'capturedBy' walked: the pointers of the bindings whose capture is id, in a row of the call's own; nil where there is none.
-/
import Derived.Test.YbulkdcsqBuild
namespace Go.Proofs.Ybulkdcsq
open Go.RowKit Go.Deep Go.Proofs.Ybulkdcsq.Aid

theorem Yba.info33 : (Yba.prog.info? 33).map (fun i => (i.zero, i.size, i.bytes)) = some (some (.pointer none), 1, 8) := by kernel_rfl

/-- the pointers kept among the first k bindings -/
def kept (pb : Nat) (C K : Nat → Int) (id : Int) : Nat → List Value
  | 0 => []
  | k + 1 => if C k = id then kept pb C K id k ++ [node pb (K k)] else kept pb C K id k

theorem kept_le (pb : Nat) (C K : Nat → Int) (id : Int) : ∀ k, (kept pb C K id k).length ≤ k
  | 0 => Nat.le_refl _
  | k + 1 => by
    have ih := kept_le pb C K id k
    unfold kept
    split
    · simp; omega
    · omega

theorem kept_hit {pb : Nat} {C K : Nat → Int} {id : Int} {k : Nat} {v : Value} (h : C k = id) (hv : node pb (K k) = v) : kept pb C K id (k + 1) = kept pb C K id k ++ [v] := by
  rw [kept, if_pos h, hv]
theorem kept_miss {pb : Nat} {C K : Nat → Int} {id : Int} {k : Nat} (h : ¬ C k = id) : kept pb C K id (k + 1) = kept pb C K id k := by
  rw [kept, if_neg h]

theorem kept_ptr (pb : Nat) (C K : Nat → Int) (id : Int) : ∀ k, ∀ v ∈ kept pb C K id k, ∃ a, v = .pointer a
  | 0 => by intro v hv; simp [kept] at hv
  | k + 1 => by
    intro v hv
    have ih := kept_ptr pb C K id k
    unfold kept at hv
    split at hv
    · rcases List.mem_append.1 hv with h | h
      · exact ih v h
      · simp at h; subst h; unfold node; split <;> exact ⟨_, rfl⟩
    · exact ih v hv

set_option maxHeartbeats 400000 in
theorem capt_any (n g pb : Nat) (C K : Nat → Int) (id : Int) (w : World) (hn : n ≤ 1024) (hrow : w.rowIs g 35 (n * 2) (bcell pb C K)) :
    Calls Yba.prog 5 #[.slice (some ⟨g, 0, none⟩) n n, .int .i64 id] w fun e w' => ∃ v, e = .returned v ∧ w'.ownsRow w.heap.size 33 1 v (kept pb C K id n).length (kept pb C K id n) ∧
      (kept pb C K id n = [] → v = .slice none 0 0) ∧ Below w.heap.size w w' := by
  obtain ⟨i0, hi, hz0, hz1, hz2⟩ := info_parts Yba.info33
  go_enter Yba.func5, Yba.ntmps5
  go_wp2
  go_loopw [5, 10] (fun v i wr => ∃ k : Nat, k ≤ n ∧ i = .int .i64 k ∧ wr.ownsRow w.heap.size 33 1 v (kept pb C K id k).length (kept pb C K id k) ∧ (kept pb C K id k = [] → v = .slice none 0 0) ∧ Below w.heap.size w wr)
    (fun _ i _ => n - (intOf i).toNat)
  case atStart => exact ⟨0, Nat.zero_le _, rfl, World.ownsRow_nil _ _ _ _, fun _ => rfl, Below.refl _ _⟩
  case round =>
    obtain ⟨k, hkn, rfl, hown, hnil, hnx⟩ := hrel
    by_cases hlt : k < n
    · have hgB : g < w.heap.size := hrow.lt
      have g0 : wr.cell? ⟨g, k * 2, none⟩ = some (.int .i64 (C k)) := by
        rw [hnx.cell (by exact hgB), hrow.cell (by omega)]
        simp only [bcell]; rw [if_pos (by omega), show k * 2 / 2 = k from by omega]
      have g1 : wr.cell? ⟨g, k * 2 + 1, none⟩ = some (node pb (K k)) := by
        rw [hnx.cell (by exact hgB), hrow.cell (by omega)]
        simp only [bcell]; rw [if_neg (by omega), show (k * 2 + 1) / 2 = k from by omega]
      have hp : ∃ ad, node pb (K k) = .pointer ad := by unfold node; split <;> exact ⟨_, rfl⟩
      obtain ⟨ad, had⟩ := hp
      rw [had] at g1
      have HA : Hid (node pb (K k) = .pointer ad) := had
      clear had hrow
      have hkl := kept_le pb C K id k
      by_cases h4 : C k = id
      · have h4' : (C k == id) = true := by simp [h4]
        have H4 : Hid (C k = id) := h4
        clear h4
        go_wp2_with (at_builtin; refine wpList_append_own _ rfl (.tmp 18) (.tmp 21) 29 rfl w.heap.size 33 i0 (.pointer none) 1 8 Yba.underlying29 hi hz0 hz1 hz2 rfl (by decide) _ _ _ rfl ((hown.alloc _).alloc _) ⟨wr.heap.size + 1, 0, none⟩ 1 1 [.pointer ad] rfl rfl ?c1 ?c2 ?c3 ?c4 ?c5 ?_)
        case c1 => exact cell_one_new2 _ _ _ _
        case c2 => intro u hu; simp at hu; subst hu; rfl
        case c3 => unfold maxLen; omega
        case c4 => omega
        case c5 => have := hnx.size; simp; omega
        intro v' w1 hown' hgrow hnil'
        go_wp2
        have hE := kept_hit H4.out HA.out
        go_roundw
        case rel =>
          refine ⟨k + 1, by omega, by go_num, ?_, fun h => ?_, ?_⟩
          · rw [hE]; simpa using hown'
          · rw [hE] at h; simp at h
          · refine Below.grown ((hnx.alloc hnx.size _).alloc ?_ _) hgrow ?_ ?_
            · have := hnx.size; simp; omega
            · have := hnx.size; simp; omega
            · exact fun q hq => (hown.lt q hq).1
        case measure => simp [intOf]; omega
      · have h4' : (C k == id) = false := by simp [h4]
        have H4 : Hid (¬ C k = id) := h4
        clear h4
        go_wp2
        have hE := kept_miss (pb := pb) (K := K) H4.out
        go_roundw
        case rel => exact ⟨k + 1, by omega, by go_num, by rw [hE]; exact hown.alloc _, by rw [hE]; exact hnil, hnx.alloc hnx.size _⟩
        case measure => simp [intOf]; omega
    · go_wp2
      go_ret
      obtain rfl : k = n := by omega
      exact ⟨_, rfl, hown, hnil, hnx⟩

set_option maxHeartbeats 400000 in
theorem capt_zero (bo : Option Addr) (c : Nat) (id : Int) (w : World) :
    Calls Yba.prog 5 #[.slice bo 0 c, .int .i64 id] w fun e w' => e = .returned (.slice none 0 0) ∧ w' = w := by
  go_enter Yba.func5, Yba.ntmps5
  go_wp2
  refine wp_loop_rounds 1 ?_
  rw [rounds_succ]
  go_wp2
  go_ret
  exact ⟨rfl, rfl⟩

end Go.Proofs.Ybulkdcsq
