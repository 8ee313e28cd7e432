/-
  'digit' walked.
-/
import Derived.Test.YbonekuxeGreatKeys
namespace Go.Proofs.YbonekuxeGreat
open Go.RowKit Go.Deep Go.Proofs.YbonekuxeGreat.Plain

/-- a box with a state in it -/
def bx (x : El) : Obj := .cells #[.int .u64 x.h, .int .u32 0, .int .u32 x.i, .int .u8 x.c, .bool x.l] 41

set_option maxRecDepth 100000 in
set_option maxHeartbeats 1000000 in
theorem digit_any (x : El) (p : Nat) (hp : p < 9) (w : World) :
    Calls Ybgs.prog 7 #[ev x, .int .i64 p] w fun e w' => e = .returned (.int .u8 (dig x p)) ∧ w' = w.alloc (bx x) := by
  unfold bx ev
  go_enter Ybgs.func7, Ybgs.ntmps7
  by_cases h8 : p < 8
  · have hd : dig x p = x.h / 2 ^ (8 * p) % 256 := by unfold dig; rw [if_pos h8]
    have h8' : (p : Int) < 8 := by omega
    have hd' : ((dig x p : Nat) : Int) = (x.h : Int) / 2 ^ (8 * p) % 256 := by rw [hd]; simp
    go_wp2
    go_ret
    exact ⟨by rw [hd']; rfl, rfl⟩
  · obtain rfl : p = 8 := by omega
    have hd : dig x 8 = x.c := rfl
    go_wp2
    go_ret
    exact ⟨by rw [hd]; rfl, rfl⟩

end Go.Proofs.YbonekuxeGreat
