/-
  'LawS5208CChain' walked.
-/
import Derived.Test.YbulkdcviSpill
import Derived.Test.YbulkdcviHeld
namespace Go.Proofs.Ybulkdcvi
open Go.RowKit Go.Deep Go.Proofs.Ybulkdcvi.Aid Go.Proofs.Ybulkdcvi.Plain

/-- Two slices of the call's own that lie apart: the first grows, the second stays, and they lie apart still. -/
theorem apart_ext {B : Nat} {w w' : World} {v1 v1' v2 : Value} {n1 n2 : Nat} {xs1 xs2 : List Value} {m : Nat} {ys : List Value} (h2 : w.ownsRow B 5 1 v2 n2 xs2)
    (hap : ∀ q, v1.ownBlock = some q → v2.ownBlock ≠ some q) (hx : Ext B 5 w w' v1 v1' n1 xs1 m ys) : w'.ownsRow B 5 1 v2 n2 xs2 ∧ ∀ q, v1'.ownBlock = some q → v2.ownBlock ≠ some q := by
  refine ⟨ownsRow_of_block h2 fun k hk => hx.grown.block k (h2.lt k hk).2 (fun e => hap k e.symm hk), fun q hq hq2 => ?_⟩
  rcases hx.place with hp | ⟨k, hp, hk⟩
  · exact hap q (by rw [← hp]; exact hq) hq2
  · rw [hp] at hq
    simp at hq
    have := (h2.lt q hq2).2
    omega

theorem apart_symm {v1 v2 : Value} (h : ∀ q, v1.ownBlock = some q → v2.ownBlock ≠ some q) : ∀ q, v2.ownBlock = some q → v1.ownBlock ≠ some q := fun q h2 h1 => h q h1 h2

/-- the bytes of q whole groups of the stream T -/
def outCells (T q : Nat) : List Value := (List.range (8 * q)).map fun j => .int .u8 ((T / 2 ^ (8 * j) % 256 : Nat) : Int)

theorem outCells_one (T q : Nat) : ∀ u ∈ outCells T q, u.oneCell' = true := by
  intro u hu
  obtain ⟨j, _, rfl⟩ := List.mem_map.1 hu
  rfl

theorem outCells_kept (T x L q : Nat) (h : 64 * q ≤ L) : outCells (T + x * 2 ^ L) q = outCells T q := by
  unfold outCells
  refine List.map_congr_left fun j hj => ?_
  rw [byte_kept T x L j (by have := List.mem_range.1 hj; omega)]

theorem outCells_more (T q : Nat) : outCells T q ++ ((List.range 8).map fun j => .int .u8 ((byteAt (T / 2 ^ (64 * q)) 64 j : Nat) : Int)) = outCells T (q + 1) := by
  unfold outCells
  rw [show 8 * (q + 1) = 8 * q + 8 from by omega, List.range_add, List.map_append, List.map_map]
  congr 1
  refine List.map_congr_left fun j hj => ?_
  show _ = Value.int .u8 ((T / 2 ^ (8 * (8 * q + j)) % 256 : Nat) : Int)
  rw [byte_new T q j (List.mem_range.1 hj)]

theorem outCells_at (T q j : Nat) (hj : j < 8 * q) : (outCells T q)[j]? = some (.int .u8 ((T / 2 ^ (8 * j) % 256 : Nat) : Int)) := by
  simp [outCells, hj]

/-- What the law is told of a slice of numbers that came in. -/
def IsNums (k : IntKind) (w : World) (a0 : Option Addr) (len : Nat) (X : Nat → Nat) : Prop :=
  0 < len → ∃ b off, a0 = some ⟨b, off, none⟩ ∧ b < w.heap.size ∧ ∀ j, j < len → w.cell? ⟨b, off + j, none⟩ = some (.int k (X j))

/-- The two slices hold one stream T of L bits: every whole group is out, the rest is held. -/
def Str (B : Nat) (w wr : World) (vo vb : Value) (k a h : Nat) : Prop :=
  ∃ T L q, Held T L a h q ∧ L ≤ 56 * k ∧ wr.ownsRow B 5 1 vo (8 * q) (outCells T q) ∧ wr.ownsRow B 5 1 vb L (bitCells T L) ∧ (∀ q, vo.ownBlock = some q → vb.ownBlock ≠ some q) ∧ B ≤ wr.heap.size ∧ Below B w wr

/-- One put and the same bits into the list: as contracts. -/
theorem put_str {B : Nat} {w wr : World} {vo vb : Value} {k a h x m : Nat} (H : Str B w wr vo vb k a h) (hk : k ≤ 1024) (hm : m ≤ 56) (hx : x < 2 ^ m) :
    Calls Yba.prog 6 #[vo, .int .u64 a, .int .u64 h, .int .u64 x, .int .u64 m] wr fun e w' => ∃ (vo' : Value) (a' h' : Nat), e = .returned (.tuple #[vo', .int .u64 (a' : Int), .int .u64 (h' : Int)]) ∧
      ∃ T L q, T < 2 ^ L ∧ L ≤ 56 * k ∧ Held (T + x * 2 ^ L) (L + m) a' h' q ∧ w'.ownsRow B 5 1 vo' (8 * q) (outCells (T + x * 2 ^ L) q) ∧ w'.ownsRow B 5 1 vb L (bitCells T L) ∧ (∀ q, vo'.ownBlock = some q → vb.ownBlock ≠ some q) ∧ B ≤ w'.heap.size ∧ Below B w w' := by
  obtain ⟨T, L, q, hh, hL, ho, hb, hap, hB, hbel⟩ := H
  have hq := hh.1
  have hh64 := hh.2.1
  by_cases hs : h + m < 64
  · refine (put_stay vo a h x m wr hh64 hs hh.lt hx).mono ?_
    rintro e w' ⟨rfl, rfl⟩
    exact ⟨vo, _, _, rfl, T, L, q, hh.2.2.2, hL, hh.stay x m hx hs, by rw [outCells_kept T x L q (by omega)]; exact ho, hb, hap, hB, hbel⟩
  · obtain ⟨n, hn⟩ : ∃ n, h + m = n + 64 := ⟨h + m - 64, by omega⟩
    refine (put_spill' B vo (8 * q) _ a h x m wr hB (by omega) ho (outCells_one T q) hh64 (by omega) hm hh.lt hx _ _ n rfl rfl hn).mono ?_
    rintro e w' ⟨vo', rfl, hext⟩
    obtain ⟨hb', hap'⟩ := apart_ext hb hap hext
    refine ⟨vo', _, _, rfl, T, L, q + 1, hh.2.2.2, hL, hh.spill x m n hx hn (by omega), ?_, hb', hap', Nat.le_trans hB hext.grown.size, Below.grown hbel hext.grown hB (fun k hk => (ho.lt k hk).1)⟩
    have ho' := hext.own
    rw [hh.join x, ← outCells_kept T x L q (by omega), outCells_more] at ho'
    exact ho'

theorem bits_str {B : Nat} {w w1 : World} {vo vb : Value} {k a h x m q T L : Nat} (hT : T < 2 ^ L) (hL : L ≤ 56 * k) (hk : k ≤ 1024) (hm : m ≤ 56) (hx : x < 2 ^ m) (hh : Held (T + x * 2 ^ L) (L + m) a h q)
    (ho : w1.ownsRow B 5 1 vo (8 * q) (outCells (T + x * 2 ^ L) q)) (hb : w1.ownsRow B 5 1 vb L (bitCells T L)) (hap : ∀ q, vo.ownBlock = some q → vb.ownBlock ≠ some q) (hB : B ≤ w1.heap.size) (hbel : Below B w w1) :
    Calls Yba.prog 5 #[vb, .int .u64 x, .int .u64 m] w1 fun e w' => ∃ vb', e = .returned vb' ∧ Str B w w' vo vb' (k + 1) a h := by
  have hx64 : x < 18446744073709551616 := Nat.lt_of_lt_of_le hx (Nat.le_trans (Nat.pow_le_pow_right (by omega) (show m ≤ 64 by omega)) (by decide))
  refine (bits_any B vb L _ x m w1 hB hx64 (by omega) (by omega) hb).mono ?_
  rintro e w' ⟨vb', rfl, hext⟩
  obtain ⟨ho', hap'⟩ := apart_ext ho (apart_symm hap) hext
  refine ⟨vb', rfl, _, _, q, hh, by omega, ho', ?_, apart_symm hap', Nat.le_trans hB hext.grown.size, Below.grown hbel hext.grown hB (fun k hk => (hb.lt k hk).1)⟩
  have hb' := hext.own
  rw [bitCells_append T x L m hT] at hb'
  exact hb'

end Go.Proofs.Ybulkdcvi
