/-
  'copy' of wide rows and of a string into an array of eight bytes; heads.
-/
import Derived.Test.YbonekuxeGreatZero
import Derived.Test.YbonekuxeGreatBig
import Derived.Lib.BufferWrite
import Derived.Room.AppendFits
import Derived.Deep.DeepAppendRoom
import Derived.Lib.SlBytesRow
namespace Go.Proofs.YbonekuxeGreat
open Go.RowKit Go.Deep Go.Proofs.YbonekuxeGreat.Plain

/-- 'copy(dst, src)' of n elements of 's' cells each, dst a whole row of the call's own, src another whole row. -/
theorem run_copy_wide {P : Program} (w : World) (dT sT ty elem : TypeId) (s g h n : Nat) (t t' : TypeId) (f0 f : Nat → Value)
    (hu : P.underlying dT = some (.slice elem)) (hs : (P.info? elem).map (·.size) = some s) (hg : w.rowIs g t (n * s) f0) (hh : w.rowIs h t' (n * s) f) (h1 : ∀ i, i < n * s → (f i).oneCell' = true) :
    ∃ w', (Builtin.copy_ #[dT, sT] ty #[.slice (some ⟨g, 0, none⟩) n n, .slice (some ⟨h, 0, none⟩) n n]).run P w = .ok (goInt n) w' ∧ w'.rowIs g t (n * s) f ∧ w.grownBy w' (some g) := by
  obtain ⟨cur, hcur, hsz, _⟩ := hg
  have hcs : ∀ j v, ((List.range (n * s)).map f)[j]? = some v → w.cell? ((⟨h, 0, none⟩ : Addr).add j) = some v := by
    intro j v hv
    have hj : j < n * s := by
      have := (List.getElem?_eq_some_iff.1 hv).1
      simpa using this
    have hadd : (⟨h, 0, none⟩ : Addr).add j = ⟨h, j, none⟩ := by unfold Addr.add; split <;> simp_all
    rw [hadd, hh.cell hj]
    simpa [hj] using hv
  have hl := run_loadCells_list (P := P) w ⟨h, 0, none⟩ ((List.range (n * s)).map f) hcs
  have hst := run_storeCells_at P g 0 t ((List.range (n * s)).map f) 0 cur w hcur (by simp [hsz]) (fun v hv => by
    obtain ⟨i, hi, rfl⟩ := List.mem_map.1 hv
    exact h1 i (List.mem_range.1 hi))
  cases hq : P.info? elem with
  | none => simp [hq] at hs
  | some i =>
    have hi : i.size = s := by simpa [hq] using hs
    simp only [List.length_map, List.length_range] at hl hst
    refine ⟨_, by simp [Builtin.copy_, run_underlying hu, Builtin.lenOf, Builtin.firstCells, sizeOf, typeInfo, hq, hi, hl, hst]; rfl, ?_, ?_⟩
    · refine ⟨_, setRow_heap w g cur _ t _ hcur, by simp [hsz], fun j hj => ?_⟩
      simp [hsz, hj]
    · exact ⟨rfl, rfl, rfl, by simp [World.setRow], fun k _ hk => setRow_other w g k _ (fun e => hk (by simp [e]))⟩

theorem wpList_copy_wide {P : Program} {w : World} {ops : Array Oper} {rest : List Oper} {o : Oper} {a : Act} {Q : Exit → Act → World → Prop} (hgd : o.guard = none) (d x : Operand) (dT sT : TypeId)
    (ho : o.op = .call { callee := .builtin .copy, args := #[d, x], argTypes := #[dT, sT] }) (elem : TypeId) (s g h n : Nat) (t t' : TypeId) (f0 f : Nat → Value)
    (hd : a.eval d = .slice (some ⟨g, 0, none⟩) n n) (hx : a.eval x = .slice (some ⟨h, 0, none⟩) n n)
    (hu : P.underlying dT = some (.slice elem)) (hs : (P.info? elem).map (·.size) = some s) (hg : w.rowIs g t (n * s) f0) (hh : w.rowIs h t' (n * s) f) (h1 : ∀ i, i < n * s → (f i).oneCell' = true)
    (hK : ∀ w', w'.rowIs g t (n * s) f → w.grownBy w' (some g) → wpList P ops Q rest (a.put o.dst (goInt n)) w') : wpList P ops Q (o :: rest) a w := by
  refine wpList_plain hgd fun K hK' => ?_
  obtain ⟨w', hrun, r1, r2⟩ := run_copy_wide (P := P) w dT sT o.type elem s g h n t t' f0 f hu hs hg hh h1
  unfold Oper.wp
  simp [execOp, ho, resolve, invoke, builtin, hd, hx, hrun, Result.andThen]
  exact hK' _ _ (hK w' r1 r2)

/-- the j-th byte, or 0 -/
def byteAt (s : ByteArray) (j : Nat) : UInt8 := s.data.toList.getD j 0

/-- 'copy(head[:], s)': head an array of eight zeros. -/
theorem run_copy_head {P : Program} (w : World) (dT sT ty elem : TypeId) (g : Nat) (t : TypeId) (s : ByteArray)
    (hu : P.underlying dT = some (.slice elem)) (hs : (P.info? elem).map (·.size) = some 1) (hg : w.rowIs g t 8 (fun _ => .int .u8 0)) :
    ∃ w', (Builtin.copy_ #[dT, sT] ty #[.slice (some ⟨g, 0, none⟩) 8 8, .string s]).run P w = .ok (goInt (Nat.min s.size 8)) w' ∧ w'.rowIs g t 8 (fun j => .int .u8 (byteAt s j).toNat) ∧ w.grownBy w' (some g) := by
  obtain ⟨cur, hcur, hsz, hcell⟩ := hg
  have hls : s.data.toList.length = s.size := by simp
  obtain ⟨m, hm⟩ : ∃ m, Nat.min s.size 8 = m := ⟨_, rfl⟩
  have hm8 : m ≤ 8 := by rw [← hm]; exact Nat.min_le_right _ _
  have hms : m ≤ s.size := by rw [← hm]; exact Nat.min_le_left _ _
  have hmo : m = s.size ∨ m = 8 := by
    rcases Nat.le_total s.size 8 with h | h
    · left; rw [← hm]; exact Nat.min_eq_left h
    · right; rw [← hm]; exact Nat.min_eq_right h
  have hlen : ((s.data.toList.map fun b : UInt8 => Value.int IntKind.u8 (b.toNat : Int)).take m).length = m := by
    rw [List.length_take, List.length_map, hls]
    omega
  have hst := run_storeCells_at P g 0 t ((s.data.toList.map fun b : UInt8 => Value.int IntKind.u8 (b.toNat : Int)).take m) 0 cur w hcur (by rw [hlen, hsz]; simpa using hm8) (fun v hv => by
    obtain ⟨b, _, rfl⟩ := List.mem_map.1 (List.mem_of_mem_take hv)
    rfl)
  cases hq : P.info? elem with
  | none => simp [hq] at hs
  | some i =>
    have hi : i.size = 1 := by simpa [hq] using hs
    refine ⟨_, by simp [Builtin.copy_, run_underlying hu, Builtin.lenOf, Builtin.firstCells, sizeOf, typeInfo, hq, hm, hst]; rfl, ?_, ?_⟩
    · refine ⟨_, setRow_heap w g cur _ t _ hcur, ?_, fun j hj => ?_⟩
      · simp [hlen, hsz]
        omega
      · rw [show min m s.size = m from by omega, List.getElem?_toArray]
        by_cases hjm : j < m
        · rw [List.getElem?_append_left (by rw [hlen]; exact hjm), List.getElem?_take_of_lt hjm, List.getElem?_map, List.getElem?_eq_getElem (by rw [hls]; omega)]
          simp only [byteAt, List.getD, List.getElem?_eq_getElem (show j < s.data.toList.length by rw [hls]; omega), Option.map_some, Option.getD_some]
        · rw [List.getElem?_append_right (by rw [hlen]; omega), hlen, List.getElem?_drop, show m + (j - m) = j from by omega, Array.getElem?_toList, hcell j hj]
          have : s.data.toList[j]? = none := List.getElem?_eq_none (by rw [hls]; omega)
          simp only [byteAt, List.getD, this, Option.getD_none]
          rfl
    · exact ⟨rfl, rfl, rfl, by simp [World.setRow], fun k _ hk => setRow_other w g k _ (fun e => hk (by simp [e]))⟩

theorem wpList_copy_head {P : Program} {w : World} {ops : Array Oper} {rest : List Oper} {o : Oper} {a : Act} {Q : Exit → Act → World → Prop} (hgd : o.guard = none) (d x : Operand) (dT sT : TypeId)
    (ho : o.op = .call { callee := .builtin .copy, args := #[d, x], argTypes := #[dT, sT] }) (elem : TypeId) (g : Nat) (t : TypeId) (s : ByteArray)
    (hd : a.eval d = .slice (some ⟨g, 0, none⟩) 8 8) (hx : a.eval x = .string s)
    (hu : P.underlying dT = some (.slice elem)) (hs : (P.info? elem).map (·.size) = some 1) (hg : w.rowIs g t 8 (fun _ => .int .u8 0))
    (hK : ∀ w', w'.rowIs g t 8 (fun j => .int .u8 (byteAt s j).toNat) → w.grownBy w' (some g) → wpList P ops Q rest (a.put o.dst (goInt (Nat.min s.size 8))) w') : wpList P ops Q (o :: rest) a w := by
  refine wpList_plain hgd fun K hK' => ?_
  obtain ⟨w', hrun, r1, r2⟩ := run_copy_head (P := P) w dT sT o.type elem g t s hu hs hg
  unfold Oper.wp
  simp [execOp, ho, resolve, invoke, builtin, hd, hx, hrun, Result.andThen]
  exact hK' _ _ (hK w' r1 r2)

/-- the first m bytes, zeros behind -/
def pad : Nat → List UInt8 → List UInt8
  | 0, _ => []
  | m + 1, [] => 0 :: pad m []
  | m + 1, x :: xs => x :: pad m xs

theorem hdN_pad_nil : ∀ m, hdN m (pad m []) = 0
  | 0 => rfl
  | m + 1 => by simp [pad, hdN, hdN_pad_nil m]

theorem hdN_pad : ∀ m l, hdN m (pad m l) = hdN m l
  | 0, _ => rfl
  | m + 1, [] => by rw [hdN_pad_nil, hdN_nil]
  | m + 1, x :: xs => by simp only [pad, hdN, hdN_pad m xs]

theorem pad_succ (m : Nat) (l : List UInt8) : pad (m + 1) l = l.getD 0 0 :: pad m l.tail := by cases l <;> rfl

theorem tail_getD (l : List UInt8) (j : Nat) : l.tail.getD j 0 = l.getD (j + 1) 0 := by cases l <;> simp [List.getD]

theorem hd_bytes (s : ByteArray) : hdN 8 [byteAt s 0, byteAt s 1, byteAt s 2, byteAt s 3, byteAt s 4, byteAt s 5, byteAt s 6, byteAt s 7] = hdN 8 s.data.toList := by
  rw [← hdN_pad 8 s.data.toList]
  simp only [pad_succ, tail_getD, byteAt]
  rfl

/-- the bytes that a key is made of -/
def tb (b : Nat) : UInt8 := if b % 4 = 0 then 97 else if b % 4 = 1 then 98 else if b % 4 = 2 then 65 else 66

theorem tb_ne (b : Nat) : tb b ≠ 0 := by
  unfold tb
  repeat' split
  all_goals decide

def pfx (lg : Bool) : List UInt8 := if lg then [97, 98, 97, 98, 97, 98, 97, 98] else []
/-- the first j bytes of a key behind its first eight -/
def kby (lg : Bool) (B : Nat → Nat) (j : Nat) : List UInt8 := pfx lg ++ (List.range j).map fun q => tb (B q)

theorem kby_succ (lg : Bool) (B : Nat → Nat) (j : Nat) : kby lg B (j + 1) = kby lg B j ++ [tb (B j)] := by
  unfold kby
  rw [List.range_succ, List.map_append, List.append_assoc]
  rfl

theorem kby_length (lg : Bool) (B : Nat → Nat) (j : Nat) : (kby lg B j).length = (pfx lg).length + j := by simp [kby]

theorem kby_noZero (lg : Bool) (B : Nat → Nat) (j : Nat) : noZero (kby lg B j) := by
  intro x hx
  unfold kby at hx
  rcases List.mem_append.1 hx with h | h
  · unfold pfx at h
    cases lg
    · simp at h
    · simp at h; rcases h with h | h | h | h | h | h | h | h <;> (rw [h]; decide)
  · obtain ⟨q, _, rfl⟩ := List.mem_map.1 h
    exact tb_ne _

theorem pfx_le (lg : Bool) : (pfx lg).length ≤ 8 := by cases lg <;> simp [pfx]

end Go.Proofs.YbonekuxeGreat
