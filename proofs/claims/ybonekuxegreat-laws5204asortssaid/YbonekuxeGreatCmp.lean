/-
  'cmp.Compare', 'cmp.Or', 'strings.Compare' walked.
-/
import Derived.Test.YbonekuxeGreatProg
import Derived.Test.YbonekuxeGreatAid
import Derived.Lib.Bytealg
namespace Go.Proofs.YbonekuxeGreat
open Go.RowKit Go.Deep Go.Proofs.YbonekuxeGreat.Plain

def cmpN (x y : Nat) : Int := if x < y then -1 else if y < x then 1 else 0

set_option maxRecDepth 100000 in
theorem cmp8_any (x y : Nat) (w : World) :
    Calls Ybgs.prog 12 #[.int .u8 x, .int .u8 y] w fun e w' => e = .returned (.int .i64 (cmpN x y)) ∧ w' = w := by
  have hx : ((x : Int) != (x : Int)) = false := by simp
  have hy : ((y : Int) != (y : Int)) = false := by simp
  go_enter Ybgs.func12, Ybgs.ntmps12
  rcases Nat.lt_trichotomy x y with h | h | h
  · have hc : cmpN x y = -1 := by simp [cmpN, h]
    go_wp2
    go_ret
    exact ⟨by rw [hc]; rfl, rfl⟩
  · subst h
    have hc : cmpN x x = 0 := by simp [cmpN]
    go_wp2
    go_ret
    exact ⟨by rw [hc]; rfl, rfl⟩
  · have hc : cmpN x y = 1 := by simp [cmpN, h, Nat.not_lt.mpr (Nat.le_of_lt h)]
    go_wp2
    go_ret
    exact ⟨by rw [hc]; rfl, rfl⟩

set_option maxRecDepth 100000 in
theorem cmp64_any (x y : Nat) (w : World) :
    Calls Ybgs.prog 13 #[.int .u64 x, .int .u64 y] w fun e w' => e = .returned (.int .i64 (cmpN x y)) ∧ w' = w := by
  have hx : ((x : Int) != (x : Int)) = false := by simp
  have hy : ((y : Int) != (y : Int)) = false := by simp
  go_enter Ybgs.func13, Ybgs.ntmps13
  rcases Nat.lt_trichotomy x y with h | h | h
  · have hc : cmpN x y = -1 := by simp [cmpN, h]
    go_wp2
    go_ret
    exact ⟨by rw [hc]; rfl, rfl⟩
  · subst h
    have hc : cmpN x x = 0 := by simp [cmpN]
    go_wp2
    go_ret
    exact ⟨by rw [hc]; rfl, rfl⟩
  · have hc : cmpN x y = 1 := by simp [cmpN, h, Nat.not_lt.mpr (Nat.le_of_lt h)]
    go_wp2
    go_ret
    exact ⟨by rw [hc]; rfl, rfl⟩

set_option maxHeartbeats 1000000 in
set_option maxRecDepth 100000 in
theorem cmpStr_any (a b : ByteArray) (w : World) :
    Calls Ybgs.prog 19 #[.string a, .string b] w fun e w' => e = .returned (.int .i64 (Lib.compareBytes a.data.toList b.data.toList)) ∧ w' = w := by
  go_enter Ybgs.func19, Ybgs.ntmps19
  go_wp2_with fail
  rw [run_callFunc_extern Ybgs.func21 (by kernel_rfl) (by kernel_rfl) (by kernel_rfl) (e := Extern.BytealgCompare.compare) (by kernel_rfl), Lib.run_compareString]
  simp only [Result.andThen]
  rw [Oper.upon_value]
  go_wp2
  go_ret
  exact ⟨rfl, rfl⟩

set_option maxHeartbeats 1000000 in
set_option maxRecDepth 100000 in
theorem strCompare_any (a b : ByteArray) (w : World) :
    Calls Ybgs.prog 14 #[.string a, .string b] w fun e w' => e = .returned (.int .i64 (Lib.compareBytes a.data.toList b.data.toList)) ∧ w' = w := by
  go_enter Ybgs.func14, Ybgs.ntmps14
  go_wp2_with (go_at_call 19; refine (cmpStr_any a b _).mono ?_; rintro e w1 ⟨rfl, rfl⟩)
  go_ret
  exact ⟨rfl, rfl⟩

def orI (a b : Int) : Int := if a = 0 then b else a

set_option maxHeartbeats 1000000 in
set_option maxRecDepth 100000 in
theorem or_any (q : Nat) (x y : Int) (w : World) (h0 : w.cell? ⟨q, 0, none⟩ = some (.int .i64 x)) (h1 : w.cell? ⟨q, 1, none⟩ = some (.int .i64 y)) :
    Calls Ybgs.prog 11 #[.slice (some ⟨q, 0, none⟩) 2 2] w fun e w' => e = .returned (.int .i64 (orI x y)) ∧ w' = w := by
  go_enter Ybgs.func11, Ybgs.ntmps11
  go_wp2
  go_loopw [8] (fun i wr => ∃ k : Nat, k ≤ 2 ∧ i = .int .i64 k ∧ wr = w ∧ (0 < k → x = 0) ∧ (1 < k → y = 0)) (fun i _ => 2 - (intOf i).toNat)
  case atStart => exact ⟨0, by omega, rfl, rfl, by omega, by omega⟩
  case round =>
    obtain ⟨k, hk, rfl, rfl, hx, hy⟩ := hrel
    rcases (show k = 0 ∨ k = 1 ∨ k = 2 by omega) with rfl | rfl | rfl
    · by_cases hz : x = 0
      · subst hz
        go_wp2
        go_roundw
        case rel => exact ⟨1, by omega, rfl, by simp⟩
        case measure => simp [intOf]
      · have hb : (x != 0) = true := by simp [hz]
        have hc : orI x y = x := by simp [orI, hz]
        go_wp2
        go_ret
        exact ⟨by first | rfl | (rw [hc]; rfl), rfl⟩
    · obtain rfl := hx (by omega)
      by_cases hz : y = 0
      · subst hz
        go_wp2
        go_roundw
        case rel => exact ⟨2, by omega, rfl, by simp⟩
        case measure => simp [intOf]
      · have hb : (y != 0) = true := by simp [hz]
        have hc : orI 0 y = y := by simp [orI]
        go_wp2
        go_ret
        exact ⟨by first | rfl | (rw [hc]; rfl), rfl⟩
    · obtain rfl := hx (by omega)
      obtain rfl := hy (by omega)
      have hc : orI 0 0 = 0 := by simp [orI]
      go_wp2
      go_ret
      exact ⟨by first | rfl | (rw [hc]; rfl), rfl⟩

end Go.Proofs.YbonekuxeGreat
