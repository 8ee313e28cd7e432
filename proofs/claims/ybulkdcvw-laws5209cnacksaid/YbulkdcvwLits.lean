/-
  The composite literals of LawS5209CNack, their values told once.
-/
import Derived.Test.YbulkdcvwProbe
namespace Go.Proofs.Ybulkdcvw
open Go.RowKit Go.Deep Go.Proofs.Ybulkdcvw.Aid

/-- the cells of '&pendingProbe{seq: s, helpers: the map mb}' -/
def ppC (s : Int) (mb : Nat) : Array Value := #[.string ByteArray.empty, .int .u64 0, .int .u64 0, .pointer none, .int .u16 0, .int .u8 0, .int .u64 0, .int .u64 0, .string ByteArray.empty, .int .u64 s, .int .u64 0, .int .i64 0, .pointer none, .int .u64 0, .int .u64 0, .int .i64 0, .pointer none, .bool false, .bool false, .int .i64 0, .int .i64 0, .int .i64 0, .int .i64 0, .map (some mb)]
/-- the cells of '&Node{}' -/
def nodeC : Array Value := #[.string ByteArray.empty, .nilIface, .int .i64 0, .int .i64 0, .int .i64 0, .int .i64 0, .int .i64 0, .int .i64 0, .int .i64 0, .nilIface, .pointer none, .bool false, .pointer none, .nilFunc, .pointer none, .int .i32 0, .int .u32 0, .map none, .int .i32 0, .int .u32 0, .int .u64 0, .int .u64 0, .int .u64 0, .int .u64 0, .int .u64 0, .int .u64 0, .int .u64 0, .int .u64 0, .int .i64 0, .int .i32 0, .int .u32 0, .map none, .map none, .slice none 0 0, .map none, .map none, .slice none 0 0, .int .i64 0, .pointer none, .string ByteArray.empty, .int .u64 0, .int .u64 0, .pointer none, .int .u16 0, .int .u8 0, .int .u64 0, .int .u64 0, .string ByteArray.empty, .int .u64 0, .int .u64 0, .int .i64 0, .pointer none, .int .u64 0, .int .i64 0, .pointer none, .int .i64 0, .map none, .map none, .map none, .slice none 0 0, .slice none 0 0, .chan none, .int .u64 0, .map none, .map none, .pointer none, .map none, .bool false, .slice none 0 0, .chan none, .int .u32 0, .int .i32 0, .int .u32 0, .nilIface, .nilIface, .int .u64 0, .int .u32 0]

theorem run_build59 (s : Int) (mb : Nat) (w : World) : (Instr.build 59 #[(1, .int .u64 s), (11, .map (some mb))]).run Yba.prog w = .ok (.agg (ppC s mb)) w := by kernel_rfl
theorem run_build123 (w : World) : (Instr.build 123 #[]).run Yba.prog w = .ok (.agg nodeC) w := by kernel_rfl
theorem run_build47n (s : Int) (F : ByteArray) (w : World) : (Instr.build 47 #[(1, .int .u64 s), (2, .string F)]).run Yba.prog w = .ok (nmsg s F) w := by kernel_rfl

theorem nodeC_38 : nodeC[38]? = some (.pointer none) := by kernel_rfl
theorem nodeC_size : nodeC.size = 77 := by kernel_rfl
theorem ppC_9 (s : Int) (mb : Nat) : (ppC s mb)[9]? = some (.int .u64 s) := by kernel_rfl
theorem ppC_17 (s : Int) (mb : Nat) : (ppC s mb)[17]? = some (.bool false) := by kernel_rfl
theorem ppC_23 (s : Int) (mb : Nat) : (ppC s mb)[23]? = some (.map (some mb)) := by kernel_rfl
theorem ppC_size (s : Int) (mb : Nat) : (ppC s mb).size = 24 := by kernel_rfl

/-- '&T{..}', its cells known: a new block. -/
theorem wpList_box_at {P : Program} {w : World} {ops : Array Oper} {rest : List Oper} {o : Oper} {a : Act} {Q : Exit → Act → World → Prop} (hgd : o.guard = none) (t : TypeId) (x : Operand) (ho : o.op = .box t x)
    (c : Array Value) (hx : a.eval x = .agg c)
    (h : wpList P ops Q rest (a.put o.dst (.pointer (some ⟨w.heap.size, 0, none⟩))) (w.alloc (.cells c t))) : wpList P ops Q (o :: rest) a w := by
  refine wpList_plain hgd fun K hK => ?_
  unfold Oper.wp execOp
  simp [ho, hx, Instr.box, newVar, Value.cells]
  exact hK _ _ h

end Go.Proofs.Ybulkdcvw
