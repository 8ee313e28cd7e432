/-
  'LawS5204ASorts' walked.
-/
import Derived.Test.YbonekuxeGreatWant
import Derived.Test.YbonekuxeGreatSort
namespace Go.Proofs.YbonekuxeGreat
open Go.RowKit Go.Deep Go.Proofs.YbonekuxeGreat.Plain

/-- What the law is told of the slice that came in. -/
def IsIts (w : World) (a0 : Option Addr) (n : Nat) (Cd : Nat → Nat) (Lg : Nat → Bool) (ka : Nat → Option Addr) (kl kc : Nat → Nat) (Bv : Nat → Nat → Nat) : Prop :=
  0 < n → ∃ b off, a0 = some ⟨b, off, none⟩ ∧ b < w.heap.size ∧ ∀ i, i < n → (w.cell? ⟨b, off + i * 3, none⟩ = some (.int .u8 (Cd i)) ∧ w.cell? ⟨b, off + i * 3 + 1, none⟩ = some (.bool (Lg i)) ∧ w.cell? ⟨b, off + i * 3 + 2, none⟩ = some (.slice (ka i) (kl i) (kc i))) ∧
    (0 < kl i → ∃ kb ko, ka i = some ⟨kb, ko, none⟩ ∧ kb < w.heap.size ∧ ∀ j, j < kl i → w.cell? ⟨kb, ko + j, none⟩ = some (.int .u8 (Bv i j)))

theorem make_bytes (n : Nat) (hn : n ≤ 1000000) (w : World) :
    (Instr.makeSlice 23 (.int .i64 0) (.int .i64 n)).run Ybgs.prog w = .ok (.slice (some ⟨w.heap.size, 0, none⟩) 0 n) (w.alloc (.cells (madeCells #[.int .u8 0] n) 5)) := by
  obtain ⟨i0, hi, hz0, hz1, hz2⟩ := info_parts info5
  have hmk := run_make (P := Ybgs.prog) w 23 5 i0 _ Ybgs.underlying23 hi hz0 .i64 .i64 0 n (by omega) (by omega) (by rw [hz2]; omega) (by omega)
  simp only [hz1, Int.toNat_natCast, Nat.mul_one] at hmk
  exact hmk

def u8s (l : List UInt8) : List Value := l.map fun b => .int .u8 b.toNat

/-- the item's copy -/
def itO (cd : Nat) (lg : Bool) (kv : Value) : Obj := .cells #[.int .u8 cd, .bool lg, kv] 25

/-- what stands in a round of the build loop, the key's bytes so far being l -/
structure Rd (w W : World) (Ob Sb Rb Bi Kb n k cp cd : Nat) (lg : Bool) (kv : Value) (key : Nat → ByteArray) (Cd : Nat → Nat) (m : Nat) (l : List UInt8) : Prop where
  bl : Bl w W Ob Sb Rb n k key Cd
  it : W.heap[Bi]? = some (itO cd lg kv)
  own : W.ownsRow w.heap.size 5 1 (.slice (some ⟨Kb, 0, none⟩) m cp) m (u8s l)
  kO : Kb ≠ Ob
  kS : Kb ≠ Sb
  kR : Kb ≠ Rb
  kI : Kb ≠ Bi
  iO : Bi ≠ Ob

theorem it_cells {W : World} {Bi cd : Nat} {lg : Bool} {kv : Value} (h : W.heap[Bi]? = some (itO cd lg kv)) : W.cell? ⟨Bi, 0, none⟩ = some (.int .u8 cd) ∧ W.cell? ⟨Bi, 1, none⟩ = some (.bool lg) ∧ W.cell? ⟨Bi, 2, none⟩ = some kv := by
  unfold itO at h
  refine ⟨?_, ?_, ?_⟩ <;> simp [World.cell?, h]

theorem it_lt {W : World} {Bi : Nat} {o : Obj} (h : W.heap[Bi]? = some o) : Bi < W.heap.size := by
  rcases Nat.lt_or_ge Bi W.heap.size with h' | h'
  · exact h'
  · rw [Array.getElem?_eq_none h'] at h; cases h

theorem Rd.start {w W : World} {Ob Sb Rb n k cp cd Bi : Nat} {lg : Bool} {kv : Value} {key : Nat → ByteArray} {Cd : Nat → Nat} (h : Bl w W Ob Sb Rb n k key Cd) (hB : W.heap.size = Bi) (hcp : cp ≤ maxLen) :
    Rd w ((W.alloc (itO cd lg kv)).alloc (.cells (madeCells #[.int .u8 0] cp) 5)) Ob Sb Rb Bi (Bi + 1) n k cp cd lg kv key Cd 0 [] := by
  have h1 : Bl w (W.alloc (itO cd lg kv)) Ob Sb Rb n k key Cd := h.more (World.grownBy_alloc _ _ none) (fun b hb => by cases hb)
  have h2 : Bl w ((W.alloc (itO cd lg kv)).alloc (.cells (madeCells #[.int .u8 0] cp) 5)) Ob Sb Rb n k key Cd := h1.more (World.grownBy_alloc _ _ none) (fun b hb => by cases hb)
  obtain ⟨f, hf, _⟩ := h.ro
  obtain ⟨d, hd, _⟩ := h.rs
  obtain ⟨e, he, _⟩ := h.rr
  have l1 := row_lt hf
  have l2 := row_lt hd
  have l3 := row_lt he
  have hsz : (W.alloc (itO cd lg kv)).heap.size = Bi + 1 := by rw [← hB]; simp
  have hgs := h.gr.size
  refine ⟨h2, ?_, ?_, by omega, by omega, by omega, by omega, by omega⟩
  · rw [Below.heap_alloc _ _ _ (by omega), ← hB]
    exact heap_alloc_last W _
  · have := World.ownsRow_made (base := w.heap.size) (e := 5) (size := 1) (W.alloc (itO cd lg kv)) (madeCells #[.int .u8 0] cp) cp (by omega) hcp (by rw [size_madeCells]; omega)
    rw [hsz] at this
    exact this

/-- more bytes in the key's row -/
theorem Rd.more {w W W' : World} {Ob Sb Rb Bi Kb n k cp cd : Nat} {lg : Bool} {kv : Value} {key : Nat → ByteArray} {Cd : Nat → Nat} {m m' : Nat} {l l' : List UInt8} (h : Rd w W Ob Sb Rb Bi Kb n k cp cd lg kv key Cd m l) (hg : W.grownBy W' (some Kb))
    (hown : W'.ownsRow w.heap.size 5 1 (.slice (some ⟨Kb, 0, none⟩) m' cp) m' (u8s l')) : Rd w W' Ob Sb Rb Bi Kb n k cp cd lg kv key Cd m' l' := by
  have hK := h.own.lt Kb rfl
  refine ⟨h.bl.more hg (fun b hb => ?_), (hg.block Bi (it_lt h.it) (by have := h.kI; simp; omega)).trans h.it, hown, h.kO, h.kS, h.kR, h.kI, h.iO⟩
  have hb' : Kb = b := by simpa using hb
  subst hb'
  exact ⟨hK.1, h.kO, h.kS, h.kR⟩

/-- a new block -/
theorem Rd.alloc {w W : World} {Ob Sb Rb Bi Kb n k cp cd : Nat} {lg : Bool} {kv : Value} {key : Nat → ByteArray} {Cd : Nat → Nat} {m : Nat} {l : List UInt8} (h : Rd w W Ob Sb Rb Bi Kb n k cp cd lg kv key Cd m l) (o : Obj) : Rd w (W.alloc o) Ob Sb Rb Bi Kb n k cp cd lg kv key Cd m l :=
  ⟨h.bl.more (World.grownBy_alloc _ _ none) (fun b hb => by cases hb), by rw [Below.heap_alloc _ _ _ (it_lt h.it)]; exact h.it, h.own.alloc o, h.kO, h.kS, h.kR, h.kI, h.iO⟩

theorem boxA (W : World) (x : El) (q h : Nat) (hh : W.heap.size = h) : Box (((W.alloc (.cells #[] 37)).alloc (bx x)).drewN q) (h + 1) x := by
  have h1 : (W.alloc (.cells #[] 37)).heap.size = h + 1 := by rw [← hh]; simp
  rw [← h1]
  exact heap_alloc_last (W.alloc (.cells #[] 37)) (bx x)

theorem boxB (W : World) (x : El) (q h : Nat) (hh : W.heap.size = h) : Box (((W.alloc (bx x)).alloc (.cells #[] 37)).drewN q) h x := by
  rw [← hh]
  exact (Box.new W x).alloc _

theorem twoBoxes (W : World) (x y : El) : Box (((W.alloc (bx x)).alloc (bx y)).drew) W.heap.size x ∧ Box (((W.alloc (bx x)).alloc (bx y)).drew) (W.heap.size + 1) y ∧ W.grownBy (((W.alloc (bx x)).alloc (bx y)).drew) none := by
  have h1 : (W.alloc (bx x)).heap.size = W.heap.size + 1 := by simp
  refine ⟨(Box.new W x).alloc _, ?_, grown_drewN (grown_alloc (World.grownBy_alloc W _ none) _) 1⟩
  rw [← h1]
  exact heap_alloc_last (W.alloc (bx x)) (bx y)

theorem grown_comp {w W W' : World} {b : Nat} (h : w.grownBy W none) (k : W.grownBy W' (some b)) (hb : w.heap.size ≤ b) : w.grownBy W' none :=
  ⟨k.os.trans h.os, k.tape.trans h.tape, k.output.trans h.output, Nat.le_trans h.size k.size, fun q hq hne => (k.block q (Nat.lt_of_lt_of_le hq h.size) (by simp; omega)).trans (h.block q hq hne)⟩

theorem tree_made {W : World} {Ob Gb n : Nat} {key : Nat → ByteArray} {f : Nat → Value} (hG : W.heap.size = Gb) (hf : W.rowIs Ob 33 (n * 3) f) (hf2 : ∀ j, j < n → f (j * 3 + 1) = .string (key j)) :
    Tree ((W.alloc (.cells #[.slice (some ⟨Ob, 0, none⟩) n n] 26)).alloc (.cells (tc Gb) 49)) (Gb + 1) Gb Ob n key := by
  have h1 : (W.alloc (.cells #[.slice (some ⟨Ob, 0, none⟩) n n] 26)).heap.size = Gb + 1 := by rw [← hG]; simp
  have h2 : ((W.alloc (.cells #[.slice (some ⟨Ob, 0, none⟩) n n] 26)).alloc (.cells (tc Gb) 49)).heap.size = Gb + 2 := by simp [hG]
  have hl := row_lt hf
  refine ⟨?_, ?_, fun i hi => ?_, by omega, by omega, by omega⟩
  · rw [← h1, World.cell?_alloc_new, tc_257]
  · refine cell_old _ ?_
    rw [← hG, World.cell?_alloc_new]; rfl
  · rw [(row_alloc (row_alloc hf _) _).cell (by omega), hf2 i hi]

theorem same_row {key : Nat → ByteArray} {n : Nat} {a b d e : Nat → El} (hab : ∀ j, j < n → a j = b j) (h1 : Same 0 n a d) (s1 : Sorted (RW key) 0 n d) (h2 : Same 0 n b e) (s2 : Sorted (RW key) 0 n e) : ∀ k, k < n → d k = e k := by
  intro k hk
  refine sorted_unique (R := RW key) (fun x h => RW.irr h) (fun x y z h1 h2 => RW.trans h1 h2) s1 s2 (fun i _ hi => ?_) (fun i _ hi => ?_) k k (by omega) hk
  · obtain ⟨l, _, l2, e1⟩ := h1.fwd i (Nat.zero_le _) hi
    obtain ⟨m, _, m2, e2⟩ := h2.bwd l (Nat.zero_le _) l2
    exact ⟨m, Nat.zero_le _, m2, by rw [e1, hab l l2, e2]⟩
  · obtain ⟨l, _, l2, e1⟩ := h2.fwd i (Nat.zero_le _) hi
    obtain ⟨m, _, m2, e2⟩ := h1.bwd l (Nat.zero_le _) l2
    exact ⟨m, Nat.zero_le _, m2, by rw [e1, ← hab l l2, e2]⟩

theorem size_alloc' (w : World) (o : Obj) : (w.alloc o).heap.size = w.heap.size + 1 := by
  simp

set_option maxRecDepth 100000 in
set_option maxHeartbeats 40000000 in
theorem law_any (a0 : Option Addr) (n cap : Nat) (Cd : Nat → Nat) (Lg : Nat → Bool) (ka : Nat → Option Addr) (kl kc : Nat → Nat) (Bv : Nat → Nat → Nat) (w : World) (hcd : ∀ i, Cd i < 256) (hbv : ∀ i j, Bv i j < 256) (hn : n ≤ 512) (HD : IsIts w a0 n Cd Lg ka kl kc Bv) :
    Calls Ybgs.prog 3 #[.slice a0 n cap] w fun e w' => e = .returned (.bool true) ∧ w.grownBy w' none := by
  have HCD := Hid.mk' hcd
  have HBV := Hid.mk' hbv
  have HIT := Hid.mk' HD
  clear hcd hbv HD
  have hn' : ¬ (512 : Int) < (n : Int) := by omega
  go_enter Ybgs.func3, Ybgs.ntmps3
  go_wp2
  go_loopw [30] (fun vi wr => ∃ i : Nat, i ≤ n ∧ vi = .int .i64 i ∧ wr = w ∧ Hid (∀ j, j < i → kl j ≤ 64)) (fun vi _ => n - (intOf vi).toNat)
  case atStart => exact ⟨0, Nat.zero_le _, rfl, rfl, fun j hj => absurd hj (Nat.not_lt_zero j)⟩
  case round =>
    obtain ⟨i, hi, rfl, hwr, HK⟩ := hrel
    have hwr' := hwr.symm
    subst hwr'
    clear hwr
    by_cases hlt : i < n
    · obtain ⟨b, off, rfl, hb, hc⟩ := HIT.out (by omega)
      obtain ⟨⟨c0, c1, c2⟩, _⟩ := hc i hlt
      have i2 : (i : Int) < (n : Int) := by omega
      have HC := Hid.mk' hc
      clear hc
      by_cases h64 : kl i ≤ 64
      · have h64' : ¬ (64 : Int) < (kl i : Int) := by omega
        go_wp2
        go_roundw
        case rel => exact ⟨i + 1, by omega, by go_num, trivial, fun j hj => by
          by_cases hji : j = i
          · rw [hji]; exact h64
          · exact HK.out j (by omega)⟩
        case measure => simp [intOf]; omega
      · have h64' : (64 : Int) < (kl i : Int) := by omega
        go_wp2
        go_ret
        exact ⟨rfl, World.grownBy.refl _ _⟩
    · have hin : i = n := by omega
      subst hin
      clear hi hlt
      obtain ⟨Ob, hOb⟩ : ∃ q, w.heap.size = q := ⟨_, rfl⟩
      have hmk := make_states i (by omega)
      have hmo := make_objs i (by omega)
      have HB0 : Hid (∀ key Cd, Bl w (((w.alloc (.cells (orow i) 33)).alloc (.cells (zrow i) 41)).alloc (.cells (zrow i) 41)) Ob (Ob + 1) (Ob + 2) i 0 key Cd) := fun key Cd => by
        obtain ⟨f, hf⟩ := orow_is w i
        rw [hOb] at hf
        have h2 := zrow_is (w.alloc (.cells (orow i) 33)) i
        have h3 := zrow_is ((w.alloc (.cells (orow i) 33)).alloc (.cells (zrow i) 41)) i
        simp only [size_alloc', hOb] at h2 h3
        refine ⟨⟨f, row_alloc (row_alloc hf _) _, fun j hj => absurd hj (Nat.not_lt_zero j)⟩, ⟨_, row_alloc h2 _, fun j hj => absurd hj (Nat.not_lt_zero j)⟩, ⟨_, h3, fun j hj => absurd hj (Nat.not_lt_zero j)⟩, grown_alloc (grown_alloc (World.grownBy_alloc _ _ _) _) _, by omega, by omega, by omega, by omega, by omega, by omega⟩
      have hs1 : (w.alloc (.cells (orow i) 33)).heap.size = Ob + 1 := by rw [size_alloc', hOb]
      have hs2 : ((w.alloc (.cells (orow i) 33)).alloc (.cells (zrow i) 41)).heap.size = Ob + 2 := by rw [size_alloc', size_alloc', hOb]
      go_wp2
      clear hmk hmo hs1 hs2 hOb
      generalize ((w.alloc (.cells (orow i) 33)).alloc (.cells (zrow i) 41)).alloc (.cells (zrow i) 41) = W0 at *
      generalize Ob + 1 = Sb at *
      generalize Ob + 2 = Rb at *
      obtain ⟨key, hkey⟩ : ∃ key : Nat → ByteArray, key = fun q => ⟨(kby (Lg q) (Bv q) (kl q)).toArray⟩ := ⟨_, rfl⟩
      have HKEY := Hid.mk' hkey
      clear hkey
      go_loopw [51] (fun vk wr => ∃ k : Nat, k ≤ i ∧ vk = .int .i64 k ∧ Hid (Bl w wr Ob Sb Rb i k key Cd)) (fun vk _ => i - (intOf vk).toNat)
      case atStart => exact ⟨0, Nat.zero_le _, rfl, HB0.out key Cd⟩
      case round =>
        clear HB0
        obtain ⟨k, hk, rfl, HB⟩ := hrel
        by_cases hki : k < i
        · obtain ⟨b, off, rfl, hb, hc⟩ := HIT.out (by omega)
          obtain ⟨⟨c0, c1, c2⟩, hkc⟩ := hc k hki
          have HKC := Hid.mk' hkc
          have hgr := HB.out.gr
          rw [← hgr.cell_far _ hb (by simp)] at c0 c1 c2
          have i2 : (k : Int) < (i : Int) := by omega
          obtain ⟨kn, hkn⟩ : ∃ q, kl k = q := ⟨_, rfl⟩
          obtain ⟨lg, hlg⟩ : ∃ q, Lg k = q := ⟨_, rfl⟩
          obtain ⟨cd, hcd⟩ : ∃ q, Cd k = q := ⟨_, rfl⟩
          rw [hkn] at c2
          rw [hlg] at c1
          rw [hcd] at c0
          have hk64 : kn ≤ 64 := by rw [← hkn]; exact HK.out k hki
          obtain ⟨cp, hcp⟩ : ∃ q, q = 8 + kn := ⟨_, rfl⟩
          have ecp : (8 : Int) + (kn : Int) = (cp : Int) := by omega
          have hmb := make_bytes cp (by omega)
          obtain ⟨Bi, hBi⟩ : ∃ q, wr.heap.size = q := ⟨_, rfl⟩
          have HCP := Hid.mk' hcp
          have HKN := Hid.mk' hkn
          have HLG := Hid.mk' hlg
          have HCDK := Hid.mk' hcd
          clear hc hkc hgr hcp hkn hlg hcd
          obtain ⟨kav, hkav⟩ : ∃ q, ka k = q := ⟨_, rfl⟩
          rw [hkav] at c2
          have HKAV := Hid.mk' hkav
          clear hkav
          obtain ⟨i0, hi0, hz0, hz1, hz2⟩ := info_parts info5
          obtain ⟨kcv, hkcv⟩ : ∃ q, kc k = q := ⟨_, rfl⟩
          rw [hkcv] at c2
          clear hkcv
          have HR0 : Hid (Rd w ((wr.alloc (itO cd lg (.slice kav kn kcv))).alloc (.cells (madeCells #[.int .u8 0] cp) 5)) Ob Sb Rb Bi (Bi + 1) i k cp cd lg (.slice kav kn kcv) key Cd 0 []) := Rd.start HB.out hBi (by unfold maxLen; omega)
          unfold itO at HR0
          go_upto_if 62 with fail
          clear c0 c1 c2 hmb hBi
          generalize (wr.alloc (Obj.cells #[.int .u8 cd, .bool lg, .slice kav kn kcv] 25)).alloc (.cells (madeCells #[.int .u8 0] cp) 5) = W1 at *
          generalize Bi + 1 = Kb at *
          go_cut [10] (fun v wx => ∃ m, v = .slice (some ⟨Kb, 0, none⟩) m cp ∧ Hid (m = (pfx lg).length ∧ Rd w wx Ob Sb Rb Bi Kb i k cp cd lg (.slice kav kn kcv) key Cd m (pfx lg)))
          case first =>
            cases lg
            · go_wp2
              go_meet
              exact ⟨0, rfl, rfl, HR0.out⟩
            · go_wp2_with (at_builtin; refine Go.Lib.wpList_append_fits_string _ rfl (.tmp 63) (.const (.string { data := #[97, 98, 97, 98, 97, 98, 97, 98] })) 23 9 rfl w.heap.size 5 i0 Ybgs.underlying23 Ybgs.underlying9 hi0 hz1 (some ⟨Kb, 0, none⟩) 0 cp _ rfl HR0.out.own { data := #[97, 98, 97, 98, 97, 98, 97, 98] } rfl ?c1 ?c2 ?_)
              case c1 => have := HCP.out; omega
              case c2 => have := HCP.out; show 0 + 8 ≤ cp; omega
              intro w' hown hgr'
              go_wp2
              go_meet
              exact ⟨_, rfl, rfl, HR0.out.more hgr' hown⟩
          case rest =>
            obtain ⟨m, rfl, HM⟩ := hcut
            clear HR0 HB
            generalize wc = W2 at *
            obtain ⟨q0, q1, q2⟩ := it_cells HM.out.2.it
            have H0 : Hid (Rd w W2 Ob Sb Rb Bi Kb i k cp cd lg (.slice kav kn kcv) key Cd m (kby lg (Bv k) 0)) := by
              have : kby lg (Bv k) 0 = pfx lg := by simp [kby]
              show Rd _ _ _ _ _ _ _ _ _ _ _ _ _ _ _ _ _
              rw [this]; exact HM.out.2
            have HPL : Hid (m = (pfx lg).length) := HM.out.1
            clear HM
            go_wp2
            clear q0 q1 q2
            go_loopw [10, 68] (fun vk vj wr => ∃ j m' : Nat, j ≤ kn ∧ vj = .int .i64 j ∧ vk = .slice (some ⟨Kb, 0, none⟩) m' cp ∧ Hid (m' = (pfx lg).length + j ∧ Rd w wr Ob Sb Rb Bi Kb i k cp cd lg (.slice kav kn kcv) key Cd m' (kby lg (Bv k) j))) (fun _ vj _ => kn - (intOf vj).toNat)
            case atStart => exact ⟨0, m, Nat.zero_le _, rfl, rfl, by rw [HPL.out]; rfl, H0.out⟩
            case round =>
              clear H0 HPL m
              obtain ⟨j, m, hj, rfl, rfl, HM⟩ := hrel
              by_cases hjn : j < kn
              · obtain ⟨kb, ko, hka, hkb, hkc⟩ := HKC.out (by rw [HKN.out]; omega)
                rw [HKAV.out] at hka
                subst hka
                have cb0 := hkc j (by rw [HKN.out]; exact hjn)
                rw [← HM.out.2.bl.gr.cell_far _ hkb (by simp)] at cb0
                obtain ⟨bv, hbv⟩ : ∃ q, Bv k j = q := ⟨_, rfl⟩
                rw [hbv] at cb0
                have hbl : bv < 256 := by rw [← hbv]; exact HBV.out k j
                have hj2 : (j : Int) < (kn : Int) := by omega
                have hml : m + 1 ≤ cp := by have := HCP.out; have h8 := pfx_le lg; have := HM.out.1; omega
                have HBVJ := Hid.mk' hbv
                clear hkc hbv
                rcases (show bv % 4 = 0 ∨ bv % 4 = 1 ∨ bv % 4 = 2 ∨ bv % 4 = 3 by omega) with h4 | h4 | h4 | h4
                · have h4' : (bv : Int) % 4 = 0 := by omega
                  have htb : Hid (tb bv = ({ data := #[97, 98, 65, 66] } : ByteArray)[0]) := by
                    show tb bv = _
                    unfold tb; simp only [h4]; rfl
                  go_wp2_with (at_builtin; refine wpList_append_own_spare _ rfl (.tmp 72) (.tmp 77) 23 rfl w.heap.size 5 i0 1 Ybgs.underlying23 hi0 hz1 Kb m cp _ rfl (HM.out.2.own.alloc _) ⟨wr.heap.size, 0, none⟩ 1 1 [_] rfl rfl (cell_one_new _ _ _) ?c1 hml ?_)
                  case c1 => intro u hu; simp at hu; subst hu; rfl
                  intro w1 hown1 hgr1
                  go_wp2
                  go_roundw
                  case rel =>
                    refine ⟨j + 1, m + 1, by omega, by go_num, rfl, by have := HM.out.1; omega, ?_⟩
                    rw [kby_succ, HBVJ.out]
                    refine (HM.out.2.alloc _).more hgr1 ?_
                    have hu : u8s (kby lg (Bv k) j ++ [tb bv]) = u8s (kby lg (Bv k) j) ++ [.int .u8 (({ data := #[97, 98, 65, 66] } : ByteArray)[0]).toNat] := by rw [htb.out]; simp [u8s]
                    rw [hu]
                    exact hown1
                  case measure => simp [intOf]; omega
                · have h4' : (bv : Int) % 4 = 1 := by omega
                  have htb : Hid (tb bv = ({ data := #[97, 98, 65, 66] } : ByteArray)[1]) := by
                    show tb bv = _
                    unfold tb; simp only [h4]; rfl
                  go_wp2_with (at_builtin; refine wpList_append_own_spare _ rfl (.tmp 72) (.tmp 77) 23 rfl w.heap.size 5 i0 1 Ybgs.underlying23 hi0 hz1 Kb m cp _ rfl (HM.out.2.own.alloc _) ⟨wr.heap.size, 0, none⟩ 1 1 [_] rfl rfl (cell_one_new _ _ _) ?c1 hml ?_)
                  case c1 => intro u hu; simp at hu; subst hu; rfl
                  intro w1 hown1 hgr1
                  go_wp2
                  go_roundw
                  case rel =>
                    refine ⟨j + 1, m + 1, by omega, by go_num, rfl, by have := HM.out.1; omega, ?_⟩
                    rw [kby_succ, HBVJ.out]
                    refine (HM.out.2.alloc _).more hgr1 ?_
                    have hu : u8s (kby lg (Bv k) j ++ [tb bv]) = u8s (kby lg (Bv k) j) ++ [.int .u8 (({ data := #[97, 98, 65, 66] } : ByteArray)[1]).toNat] := by rw [htb.out]; simp [u8s]
                    rw [hu]
                    exact hown1
                  case measure => simp [intOf]; omega
                · have h4' : (bv : Int) % 4 = 2 := by omega
                  have htb : Hid (tb bv = ({ data := #[97, 98, 65, 66] } : ByteArray)[2]) := by
                    show tb bv = _
                    unfold tb; simp only [h4]; rfl
                  go_wp2_with (at_builtin; refine wpList_append_own_spare _ rfl (.tmp 72) (.tmp 77) 23 rfl w.heap.size 5 i0 1 Ybgs.underlying23 hi0 hz1 Kb m cp _ rfl (HM.out.2.own.alloc _) ⟨wr.heap.size, 0, none⟩ 1 1 [_] rfl rfl (cell_one_new _ _ _) ?c1 hml ?_)
                  case c1 => intro u hu; simp at hu; subst hu; rfl
                  intro w1 hown1 hgr1
                  go_wp2
                  go_roundw
                  case rel =>
                    refine ⟨j + 1, m + 1, by omega, by go_num, rfl, by have := HM.out.1; omega, ?_⟩
                    rw [kby_succ, HBVJ.out]
                    refine (HM.out.2.alloc _).more hgr1 ?_
                    have hu : u8s (kby lg (Bv k) j ++ [tb bv]) = u8s (kby lg (Bv k) j) ++ [.int .u8 (({ data := #[97, 98, 65, 66] } : ByteArray)[2]).toNat] := by rw [htb.out]; simp [u8s]
                    rw [hu]
                    exact hown1
                  case measure => simp [intOf]; omega
                · have h4' : (bv : Int) % 4 = 3 := by omega
                  have htb : Hid (tb bv = ({ data := #[97, 98, 65, 66] } : ByteArray)[3]) := by
                    show tb bv = _
                    unfold tb; simp only [h4]; rfl
                  go_wp2_with (at_builtin; refine wpList_append_own_spare _ rfl (.tmp 72) (.tmp 77) 23 rfl w.heap.size 5 i0 1 Ybgs.underlying23 hi0 hz1 Kb m cp _ rfl (HM.out.2.own.alloc _) ⟨wr.heap.size, 0, none⟩ 1 1 [_] rfl rfl (cell_one_new _ _ _) ?c1 hml ?_)
                  case c1 => intro u hu; simp at hu; subst hu; rfl
                  intro w1 hown1 hgr1
                  go_wp2
                  go_roundw
                  case rel =>
                    refine ⟨j + 1, m + 1, by omega, by go_num, rfl, by have := HM.out.1; omega, ?_⟩
                    rw [kby_succ, HBVJ.out]
                    refine (HM.out.2.alloc _).more hgr1 ?_
                    have hu : u8s (kby lg (Bv k) j ++ [tb bv]) = u8s (kby lg (Bv k) j) ++ [.int .u8 (({ data := #[97, 98, 65, 66] } : ByteArray)[3]).toNat] := by rw [htb.out]; simp [u8s]
                    rw [hu]
                    exact hown1
                  case measure => simp [intOf]; omega
              · obtain rfl : j = kn := by omega
                have hmsz : m = (key k).size := by
                  rw [HKEY.out, HM.out.1]
                  show _ = (kby (Lg k) (Bv k) (kl k)).toArray.size
                  rw [HLG.out, HKN.out, List.size_toArray, kby_length]
                have hkd : Hid ((key k).data.toList = kby lg (Bv k) j) := by
                  show (key k).data.toList = _
                  rw [HKEY.out]
                  show (kby (Lg k) (Bv k) (kl k)).toArray.toList = _
                  rw [HLG.out, HKN.out]
                have hcv : (convert 23 9 (.slice (some ⟨Kb, 0, none⟩) m cp)).run Ybgs.prog wr = .ok (.string (key k)) wr := by
                  rw [hmsz]
                  refine Go.Lib.run_convert_whole (P := Ybgs.prog) wr 23 5 9 Ybgs.underlying23 Ybgs.underlying5 Ybgs.underlying9 Kb 0 (key k) (fun q hq => ?_) cp
                  have hqm : q < m := by rw [hmsz]; exact hq
                  rw [Nat.zero_add, HM.out.2.own.cellAt q (by omega)]
                  have hq2 : q < (key k).data.toList.length := by simpa using hq
                  have e1 : (u8s (kby lg (Bv k) j))[q]? = some (.int .u8 ((key k).data.toList[q]'hq2).toNat) := by
                    unfold u8s
                    rw [← hkd.out, List.getElem?_map, List.getElem?_eq_getElem hq2]
                    rfl
                  rw [e1]
                  rfl
                obtain ⟨K3, hK3⟩ : ∃ q, k * 3 = q := ⟨_, rfl⟩
                obtain ⟨fo, hfo, hfo2⟩ := HM.out.2.bl.ro
                have o0 := hfo.cell (i := K3) (by omega)
                have o1 := hfo.cell (i := K3 + 1) (by omega)
                have o2 := hfo.cell (i := K3 + 2) (by omega)
                have z0 := hfo.frozen K3
                have z1 := hfo.frozen (K3 + 1)
                have z2 := hfo.frozen (K3 + 2)
                have HOBJ := Hid.mk' (HM.out.2.bl.obj hK3)
                clear hmsz hfo hfo2
                have HIT3 : Hid ((((wr.setCell ⟨Ob, K3, none⟩ .nilIface).setCell ⟨Ob, K3 + 1, none⟩ (.string (key k))).setCell ⟨Ob, K3 + 2, none⟩ .nilIface).heap[Bi]? = some (itO cd lg (.slice kav j kcv))) := by
                  show _ = _
                  rw [Below.heap_setCell _ _ _ _ (by exact HM.out.2.iO), Below.heap_setCell _ _ _ _ (by exact HM.out.2.iO), Below.heap_setCell _ _ _ _ (by exact HM.out.2.iO)]
                  exact HM.out.2.it
                go_upto_region 26 with fail
                clear o0 o1 o2 z0 z1 z2 hcv
                generalize ((wr.setCell ⟨Ob, K3, none⟩ .nilIface).setCell ⟨Ob, K3 + 1, none⟩ (.string (key k))).setCell ⟨Ob, K3 + 2, none⟩ .nilIface = W3 at *
                obtain ⟨Hd, hHd⟩ : ∃ q, W3.heap.size = q := ⟨_, rfl⟩
                have HHR : Hid ((W3.alloc (.cells #[.int .u8 0, .int .u8 0, .int .u8 0, .int .u8 0, .int .u8 0, .int .u8 0, .int .u8 0, .int .u8 0] 34)).rowIs Hd 34 8 (fun _ => .int .u8 0)) := by
                  show World.rowIs _ _ _ _ _
                  rw [← hHd]
                  refine ⟨_, heap_alloc_last _ _, rfl, fun q hq => ?_⟩
                  rcases (show q = 0 ∨ q = 1 ∨ q = 2 ∨ q = 3 ∨ q = 4 ∨ q = 5 ∨ q = 6 ∨ q = 7 by omega) with h | h | h | h | h | h | h | h <;> (subst h; rfl)
                obtain ⟨W4, hrun, hrow4, hgr4⟩ := run_copy_head (P := Ybgs.prog) (W3.alloc (.cells #[.int .u8 0, .int .u8 0, .int .u8 0, .int .u8 0, .int .u8 0, .int .u8 0, .int .u8 0, .int .u8 0] 34)) 23 9 3 5 Hd 34 (key k) Ybgs.underlying23 size5 HHR.out
                have HROW4 := Hid.mk' hrow4
                have HGR4 := Hid.mk' hgr4
                clear hrow4 hgr4
                go_upto_region 28 with fail
                have H4 : Hid (Bl w W4 Ob Sb Rb i k key Cd ∧ (∃ f, W4.rowIs Ob 33 (i * 3) f ∧ ∀ j, j < k + 1 → f (j * 3 + 1) = .string (key j)) ∧ W4.heap[Bi]? = some (itO cd lg (.slice kav j kcv))) := by
                  obtain ⟨f, hf, hf2⟩ := HOBJ.out.2
                  obtain ⟨_, hS, _⟩ := HOBJ.out.1.rs
                  obtain ⟨_, hR, _⟩ := HOBJ.out.1.rr
                  have l1 := row_lt hf
                  have l2 := row_lt hS
                  have l3 := row_lt hR
                  have l4 := HOBJ.out.1.gr.size
                  have l5 := it_lt HIT3.out
                  have hg3 : W3.grownBy (W3.alloc (.cells #[.int .u8 0, .int .u8 0, .int .u8 0, .int .u8 0, .int .u8 0, .int .u8 0, .int .u8 0, .int .u8 0] 34)) none := World.grownBy_alloc _ _ _
                  refine ⟨(HOBJ.out.1.more hg3 (fun b hb => by cases hb)).more HGR4.out (fun b hb => ?_), ⟨f, row_stay (row_alloc hf _) HGR4.out (by simp; omega), hf2⟩, ?_⟩
                  · have : Hd = b := by simpa using hb
                    omega
                  · rw [HGR4.out.block Bi (by simp; omega) (by simp; omega), hg3.block Bi l5 (by simp)]
                    exact HIT3.out
                clear hrun HGR4 HHR hHd HIT3 HOBJ HM
                obtain ⟨q0, _, _⟩ := it_cells H4.out.2.2
                have lBi := it_lt H4.out.2.2
                have q0a : ∀ o, (W4.alloc o).cell? ⟨Bi, 0, none⟩ = some (.int .u8 cd) := fun o => cell_old o q0
                have q0b : ∀ o o', ((W4.alloc o).alloc o').cell? ⟨Bi, 0, none⟩ = some (.int .u8 cd) := fun o o' => cell_old o' (cell_old o q0)
                obtain ⟨h4, hh4⟩ : ∃ q, W4.heap.size = q := ⟨_, rfl⟩
                have hda : ∀ (W : World) (q : Nat) (o : Obj), (W.drewN q).alloc o = (W.alloc o).drewN q := fun _ _ _ => rfl
                have hds : ∀ (W : World) (q : Nat) (a : Addr) (v : Value), (W.drewN q).setCell a v = (W.setCell a v).drewN q := fun _ _ _ _ => rfl
                have wk : IntKind.u32.wrap (k : Int) = (k : Int) := by rw [IntKind.wrap_u32]; omega
                obtain ⟨sz, hsz⟩ : ∃ q, (key k).size = q := ⟨_, rfl⟩
                obtain ⟨hv, hhv⟩ : ∃ q, hdN 8 (key k).data.toList = q := ⟨_, rfl⟩
                have HBIG : Hid (∀ W : World, (∀ j, j < 8 → W.cell? ⟨Hd, j, none⟩ = some (.int .u8 (byteAt (key k) j).toNat)) → Calls Ybgs.prog 4 #[.agg #[], .slice (some ⟨Hd, 0, none⟩) 8 8] W fun e w' => e = .returned (.int .u64 hv) ∧ ∃ k, w' = (W.alloc (.cells #[] 37)).drewN k) := fun W hW => by
                  have := big_any Hd 8 8 (byteAt (key k)) W (by omega) hW
                  rw [hd_bytes, hhv] at this
                  exact this
                have HBX : Hid (Obj.cells #[.int .u64 hv, .int .u32 0, .int .u32 k, .int .u8 cd, .bool (decide ((8 : Int) < (sz : Int)))] 41 = bx (elOf key Cd k)) := by
                  show _ = _
                  unfold bx elOf
                  have hl : (key k).data.toList.length = sz := by rw [← hsz]; simp
                  have hd8 : decide ((8 : Int) < (sz : Int)) = decide (8 < sz) := by
                    rw [decide_eq_decide]; omega
                  rw [hhv, HCDK.out, hl, hd8]
                have HH4 := Hid.mk' hh4
                clear hhv
                go_cut [15] (fun v wx => ∃ B, v = .pointer (some ⟨B, 0, none⟩) ∧ Hid (Box wx B (elOf key Cd k) ∧ W4.grownBy wx none ∧ h4 ≤ B))
                case first =>
                  go_region_with (first | (go_at_call 4; refine (HBIG.out _ (by first | exact fun j hj => HROW4.out.cell hj | exact fun j hj => (row_alloc HROW4.out _).cell hj)).mono ?_; rintro _ w1 ⟨rfl, q, rfl⟩))
                  all_goals (go_wp2_with fail; go_meet)
                  all_goals rw [HBX.out]
                  all_goals first
                    | exact ⟨h4 + 1, rfl, boxA W4 (elOf key Cd k) _ h4 HH4.out, grown_drewN (grown_alloc (World.grownBy_alloc W4 _ none) _) _, by omega⟩
                    | exact ⟨h4, rfl, boxB W4 (elOf key Cd k) _ h4 HH4.out, grown_drewN (grown_alloc (World.grownBy_alloc W4 _ none) _) _, by omega⟩
                case rest =>
                  obtain ⟨B, rfl, HBB⟩ := hcut
                  generalize wc = W5 at *
                  obtain ⟨x, hx⟩ : ∃ x, elOf key Cd k = x := ⟨_, rfl⟩
                  rw [hx] at HBB
                  have HXX := Hid.mk' hx
                  clear hx q0 q0a q0b hda hds wk HBX HBIG hsz
                  have H5 : Hid (Bl w W5 Ob Sb Rb i k key Cd ∧ (∃ f, W5.rowIs Ob 33 (i * 3) f ∧ ∀ j, j < k + 1 → f (j * 3 + 1) = .string (key j)) ∧ B ≠ Sb ∧ B ≠ Rb) := by
                    obtain ⟨f, hf, hf2⟩ := H4.out.2.1
                    obtain ⟨_, hS, _⟩ := H4.out.1.rs
                    obtain ⟨_, hR, _⟩ := H4.out.1.rr
                    have l2 := row_lt hS
                    have l3 := row_lt hR
                    have l4 := HBB.out.2.2
                    have l5 := HH4.out
                    exact ⟨H4.out.1.more HBB.out.2.1 (fun b hb => by cases hb), ⟨f, row_stay hf HBB.out.2.1 (by simp), hf2⟩, by omega, by omega⟩
                  obtain ⟨K5, hK5⟩ : ∃ q, k * 5 = q := ⟨_, rfl⟩
                  obtain ⟨b0, b1, b2, b3, b4⟩ := HBB.out.1.five
                  obtain ⟨dS, hS, _⟩ := H5.out.1.rs
                  obtain ⟨dR, hR, _⟩ := H5.out.1.rr
                  obtain ⟨s0, s1, s2, s3, s4⟩ := row_five hS k hki hK5
                  obtain ⟨f0, f1, f2, f3, f4⟩ := row_free hS K5
                  have hRS : (((((W5.setCell ⟨Sb, K5, none⟩ (.int .u64 x.h)).setCell ⟨Sb, K5 + 1, none⟩ (.int .u32 0)).setCell ⟨Sb, K5 + 2, none⟩ (.int .u32 x.i)).setCell ⟨Sb, K5 + 3, none⟩ (.int .u8 x.c)).setCell ⟨Sb, K5 + 4, none⟩ (.bool x.l)).rowIs Rb 41 (i * 5) (rc dR) :=
                    row_far (row_far (row_far (row_far (row_far hR Sb _ _ H5.out.1.sr.symm) Sb _ _ H5.out.1.sr.symm) Sb _ _ H5.out.1.sr.symm) Sb _ _ H5.out.1.sr.symm) Sb _ _ H5.out.1.sr.symm
                  obtain ⟨r0, r1, r2, r3, r4⟩ := row_five hRS k hki hK5
                  obtain ⟨g0, g1, g2, g3, g4⟩ := row_free hRS K5
                  obtain ⟨e0, e1, e2, e3, e4⟩ := (HBB.out.1.far5 Sb K5 (.int .u64 x.h) (.int .u32 0) (.int .u32 x.i) (.int .u8 x.c) (.bool x.l) H5.out.2.2.1).five
                  have HNX := Hid.mk' (H5.out.1.next H5.out.2.1 HXX.out.symm hK5)
                  clear hS hR hRS
                  go_wp2
                  go_roundw
                  case rel =>
                    first
                      | exact ⟨k + 1, by omega, by go_num, HNX⟩
                      | ((repeat apply Exists.intro); exact ⟨⟨k + 1, by omega, by go_num, HNX⟩, rfl⟩)
                  case measure => simp [intOf]; omega
        · have hki' : k = i := by omega
          subst hki'
          clear hk hki
          have hmk := make_states k (by omega)
          obtain ⟨Wb, hWb⟩ : ∃ q, wr.heap.size = q := ⟨_, rfl⟩
          obtain ⟨dR, hR, hR2⟩ := HB.out.rr
          obtain ⟨W1, hrun, hrow1, hgr1⟩ := run_copy_wide (P := Ybgs.prog) (wr.alloc (.cells (zrow k) 41)) 27 27 3 41 5 Wb Rb k 41 41 _ _ Ybgs.underlying27 size41 (by rw [← hWb]; exact zrow_is wr k) (row_alloc hR _) (fun q _ => rc_one _ q)
          have HWN : Hid (Wn w W1 Ob Sb Rb Wb k key Cd dR) := by
            obtain ⟨_, hO, _⟩ := HB.out.ro
            obtain ⟨_, hS, _⟩ := HB.out.rs
            have l1 := row_lt hO
            have l2 := row_lt hS
            have l3 := row_lt hR
            have l4 := HB.out.gr.size
            have h1 : Bl w (wr.alloc (.cells (zrow k) 41)) Ob Sb Rb k k key Cd := HB.out.more (World.grownBy_alloc _ _ none) (fun b hb => by cases hb)
            refine ⟨h1.more hgr1 (fun b hb => ?_), hrow1, by omega, by omega, by omega, by omega⟩
            have : Wb = b := by simpa using hb
            omega
          have HMD : Hid (∀ q, q < k → Made key k (dR q) ∧ (dR q).i = q) := fun q hq => by
            rw [hR2 q hq]
            refine ⟨elOf_made hq (HCD.out q) ?_, rfl⟩
            rw [HKEY.out]
            exact kby_noZero _ _ _
          have HR2 := Hid.mk' hR2
          have HOUT : Hid (Outer (RW key) El.i 0 k 1 dR dR) := Outer.start 0 k dR (fun a b _ h1 h2 => by rw [(HMD.out a (by omega)).2, (HMD.out b h2).2]; exact h1)
          clear hR hR2 hrow1 hgr1 HB
          go_wp2
          clear hrun hmk hWb
          go_loopw [17] (fun vi wr => ∃ q : Nat, ∃ e : Nat → El, 1 ≤ q ∧ (q ≤ k ∨ q = 1) ∧ vi = .int .i64 q ∧ Hid (Wn w wr Ob Sb Rb Wb k key Cd e ∧ Outer (RW key) El.i 0 k q dR e)) (fun vi _ => k - (intOf vi).toNat)
          case atStart => exact ⟨1, dR, Nat.le_refl _, .inr rfl, rfl, HWN.out, HOUT.out⟩
          case round =>
            clear HWN HOUT
            obtain ⟨q, e0, hq1, hq2, rfl, HO⟩ := hrel
            by_cases hqk : q < k
            · go_wp2
              go_loopw [18] (fun vj wr => ∃ j : Nat, ∃ e : Nat → El, j ≤ q ∧ vj = .int .i64 j ∧ Hid (Wn w wr Ob Sb Rb Wb k key Cd e ∧ Inner (RW key) El.i 0 q j e0 e)) (fun vj _ => (intOf vj).toNat)
              case atStart => exact ⟨q, e0, Nat.le_refl _, rfl, HO.out.1, Inner.start HO.out.2 hqk⟩
              case round =>
                obtain ⟨j, e, hj, rfl, HI⟩ := hrel
                by_cases hj0 : 0 < j
                · obtain ⟨j1, hj1⟩ : ∃ q, j = q + 1 := ⟨j - 1, by omega⟩
                  have ej : (j : Int) - 1 = (j1 : Int) := by omega
                  have wj : IntKind.i64.wrap ((j : Int) - 1) = (j1 : Int) := by rw [IntKind.wrap_i64]; omega
                  have wj1 : IntKind.i64.wrap (j1 : Int) = (j1 : Int) := by rw [IntKind.wrap_i64]; omega
                  obtain ⟨A, hA⟩ : ∃ q, j * 5 = q := ⟨_, rfl⟩
                  obtain ⟨Z, hZ⟩ : ∃ q, j1 * 5 = q := ⟨_, rfl⟩
                  obtain ⟨x0, x1, x2, x3, x4⟩ := row_five HI.out.1.rw j (by omega) hA
                  obtain ⟨y0, y1, y2, y3, y4⟩ := row_five HI.out.1.rw j1 (by omega) hZ
                  obtain ⟨x, hx⟩ : ∃ x, e j = x := ⟨_, rfl⟩
                  obtain ⟨y, hy⟩ : ∃ x, e j1 = x := ⟨_, rfl⟩
                  rw [hx] at x0 x2 x3 x4
                  rw [hy] at y0 y2 y3 y4
                  have jk : (j : Int) < (k : Int) := by omega
                  have j1k : (j1 : Int) < (k : Int) := by omega
                  have HXY := Hid.mk' (And.intro hx hy)
                  have HJ1 := Hid.mk' hj1
                  clear hx hy hj1
                  have x0a := fun o => cell_old o x0
                  have x0b := fun o o' => cell_old o' (cell_old o x0)
                  have x1a := fun o => cell_old o x1
                  have x1b := fun o o' => cell_old o' (cell_old o x1)
                  have x2a := fun o => cell_old o x2
                  have x2b := fun o o' => cell_old o' (cell_old o x2)
                  have x3a := fun o => cell_old o x3
                  have x3b := fun o o' => cell_old o' (cell_old o x3)
                  have x4a := fun o => cell_old o x4
                  have x4b := fun o o' => cell_old o' (cell_old o x4)
                  have y0a := fun o => cell_old o y0
                  have y0b := fun o o' => cell_old o' (cell_old o y0)
                  have y1a := fun o => cell_old o y1
                  have y1b := fun o o' => cell_old o' (cell_old o y1)
                  have y2a := fun o => cell_old o y2
                  have y2b := fun o o' => cell_old o' (cell_old o y2)
                  have y3a := fun o => cell_old o y3
                  have y3b := fun o o' => cell_old o' (cell_old o y3)
                  have y4a := fun o => cell_old o y4
                  have y4b := fun o o' => cell_old o' (cell_old o y4)
                  go_upto_region 40 with fail
                  go_cut [19, 20] (fun v1 v2 wx => ∃ B1 B2 : Nat, v1 = .pointer (some ⟨B1, 0, none⟩) ∧ v2 = .pointer (some ⟨B2, 0, none⟩) ∧ Hid (Box wx B1 x ∧ Box wx B2 y ∧ wr.grownBy wx none))
                  case first =>
                    go_region
                    all_goals (go_wp2_with fail; go_meet)
                    · obtain ⟨t1, t2, t3⟩ := twoBoxes wr x y
                      exact ⟨wr.heap.size, wr.heap.size + 1, rfl, rfl, t1, t2, t3⟩
                    · obtain ⟨t1, t2, t3⟩ := twoBoxes wr y x
                      exact ⟨wr.heap.size + 1, wr.heap.size, rfl, rfl, t2, t1, t3⟩
                  case rest =>
                    obtain ⟨B1, B2, rfl, rfl, HBB⟩ := hcut
                    generalize wc = W6 at *
                    have HI6 : Hid (Wn w W6 Ob Sb Rb Wb k key Cd e) := HI.out.1.more HBB.out.2.2
                    have HIN := Hid.mk' HI.out.2
                    have hin : ∀ r, r < k → ∃ l, l < k ∧ e r = dR l := fun r hr => by
                      obtain ⟨l, _, l2, el⟩ := (HO.out.2.same.trans (HIN.out.same.widen (Nat.le_refl _) (by omega))).fwd r (Nat.zero_le _) hr
                      exact ⟨l, l2, el⟩
                    obtain ⟨lx, lx1, lx2⟩ := hin j (by omega)
                    obtain ⟨ly, ly1, ly2⟩ := hin j1 (by omega)
                    have hxi : x.i < k := by rw [← HXY.out.1, lx2]; exact (HMD.out lx lx1).1.i
                    have hyi : y.i < k := by rw [← HXY.out.2, ly2]; exact (HMD.out ly ly1).1.i
                    have hyx : y.i < x.i := by rw [← HXY.out.1, ← HXY.out.2]; exact HIN.out.low j1 (Nat.zero_le _) (by omega) (by omega)
                    have hxi' : (x.i : Int) < (k : Int) := by omega
                    have hyi' : (y.i : Int) < (k : Int) := by omega
                    have HYX := Hid.mk' hyx
                    clear hin lx1 lx2 ly1 ly2 hyx HI x0 x1 x2 x3 x4 y0 y1 y2 y3 y4 x0a x1a x2a x3a x4a y0a y1a y2a y3a y4a x0b x1b x2b x3b x4b y0b y1b y2b y3b y4b
                    obtain ⟨fo, hfo, hfo2⟩ := HI6.out.bl.ro
                    have o1 : W6.cell? ⟨Ob, x.i * 3 + 1, none⟩ = some (.string (key x.i)) := by rw [hfo.cell (by omega), hfo2 x.i hxi]
                    have o2 : W6.cell? ⟨Ob, y.i * 3 + 1, none⟩ = some (.string (key y.i)) := by rw [hfo.cell (by omega), hfo2 y.i hyi]
                    clear hfo hfo2
                    obtain ⟨x0, x1, x2, x3, x4⟩ := HBB.out.1.five
                    obtain ⟨y0, y1, y2, y3, y4⟩ := HBB.out.2.1.five
                    have HLS := Hid.mk' (less_any (key x.i) (key y.i) x.c y.c)
                    obtain ⟨lb, hlb⟩ : ∃ q, decide (x.c < y.c ∨ (x.c = y.c ∧ cb (key x.i).data.toList (key y.i).data.toList < 0)) = q := ⟨_, rfl⟩
                    rw [hlb] at HLS
                    have HLB := Hid.mk' hlb
                    clear hlb
                    go_upto_region 41 with fail
                    go_quiet (first | (go_at_call 5; exact Calls.quiet_of_same (HLS.out _)))
                    have HI7 : Hid (Wn w (W6.drewN nq) Ob Sb Rb Wb k key Cd e) := HI6.out.more (grown_drewN (World.grownBy.refl _ _) nq)
                    clear x0 x1 x2 x3 x4 y0 y1 y2 y3 y4 o1 o2 HLS HI6 HBB
                    generalize W6.drewN nq = W7 at *
                    cases lb
                    · have hrw : RW key y x := less_no HYX.out (by have := HLB.out; simpa using this)
                      have HDN : Hid (Outer (RW key) El.i 0 k (q + 1) dR e) := Inner.done (R := RW key) (fun _ _ _ h1 h2 => RW.trans h1 h2) HO.out.2 hqk HIN.out (Nat.zero_le _) hj (fun _ => by
                        have h1 := HXY.out
                        have h2 := HJ1.out
                        rw [show j - 1 = j1 from by omega, h1.1, h1.2]; exact hrw)
                      clear hrw
                      go_wp2
                      go_roundw
                      case rel =>
                        first
                          | exact ⟨q + 1, e, by omega, by omega, by go_num, HI7.out, HDN.out⟩
                          | ((repeat apply Exists.intro); exact ⟨⟨q + 1, e, by omega, by omega, by go_num, HI7.out, HDN.out⟩, rfl⟩)
                      case measure => simp [intOf]; omega
                    · have hrw : RW key x y := less_yes (by have := HLB.out; simpa using this)
                      have HRW := Hid.mk' hrw
                      clear hrw
                      obtain ⟨x0, x1, x2, x3, x4⟩ := row_five HI7.out.rw j (by omega) hA
                      rw [HXY.out.1] at x0 x2 x3 x4
                      obtain ⟨f0, f1, f2, f3, f4⟩ := row_free HI7.out.rw A
                      obtain ⟨Bt, hBt⟩ : ∃ q, W7.heap.size = q := ⟨_, rfl⟩
                      have HI8 : Hid (Wn w (W7.alloc (bx x)) Ob Sb Rb Wb k key Cd e ∧ Box (W7.alloc (bx x)) Bt x ∧ Bt ≠ Wb) := ⟨HI7.out.more (World.grownBy_alloc _ _ _), by rw [← hBt]; exact Box.new W7 x, by have := row_lt HI7.out.rw; omega⟩
                      clear f0 f1 f2 f3 f4 HI7
                      unfold bx at HI8
                      go_upto_region 43 with fail
                      clear x0 x1 x2 x3 x4 hBt
                      generalize W7.alloc (Obj.cells #[.int .u64 x.h, .int .u32 0, .int .u32 x.i, .int .u8 x.c, .bool x.l] 41) = W8 at *
                      obtain ⟨x0, x1, x2, x3, x4⟩ := row_five HI8.out.1.rw j (by omega) hA
                      obtain ⟨y0, y1, y2, y3, y4⟩ := row_five HI8.out.1.rw j1 (by omega) hZ
                      obtain ⟨f0, f1, f2, f3, f4⟩ := row_free HI8.out.1.rw A
                      obtain ⟨g0, g1, g2, g3, g4⟩ := row_free HI8.out.1.rw Z
                      obtain ⟨t0, t1, t2, t3, t4⟩ := (HI8.out.2.1.far5 Wb A (.int .u64 y.h) (.int .u32 0) (.int .u32 y.i) (.int .u8 y.c) (.bool y.l) HI8.out.2.2).five
                      have HSW := Hid.mk' (HI8.out.1.swap (show j ≠ j1 by have := HJ1.out; omega) hA hZ)
                      rw [HXY.out.1, HXY.out.2] at HSW
                      rw [HXY.out.1] at x0 x2 x3 x4
                      rw [HXY.out.2] at y0 y2 y3 y4
                      go_wp2
                      go_roundw
                      case rel =>
                        have hj1 := HJ1.out
                        have hst : Inner (RW key) El.i 0 q j1 e0 (swapAt e j j1) := by
                          have hin := HIN.out
                          have h1 := HXY.out
                          rw [hj1] at hin h1 ⊢
                          exact hin.step (Nat.zero_le _) (by omega) (by rw [h1.1, h1.2]; exact HRW.out)
                        first
                          | exact ⟨j1, swapAt e j j1, by omega, by go_num, HSW.out, hst⟩
                          | ((repeat apply Exists.intro); exact ⟨⟨j1, swapAt e j j1, by omega, by go_num, HSW.out, hst⟩, rfl⟩)
                      case measure => simp [intOf]; have := HJ1.out; omega
                · obtain rfl : j = 0 := by omega
                  have HDN : Hid (Outer (RW key) El.i 0 k (q + 1) dR e) := Inner.done (R := RW key) (fun _ _ _ h1 h2 => RW.trans h1 h2) HO.out.2 hqk HI.out.2 (Nat.zero_le _) (Nat.zero_le _) (fun h => absurd h (Nat.lt_irrefl 0))
                  go_wp2
                  go_roundw
                  case rel =>
                    first
                      | exact ⟨q + 1, e, by omega, by omega, by go_num, HI.out.1, HDN.out⟩
                      | ((repeat apply Exists.intro); exact ⟨⟨q + 1, e, by omega, by omega, by go_num, HI.out.1, HDN.out⟩, rfl⟩)
                  case measure => simp [intOf]; omega
            · obtain ⟨hsame, hsort⟩ := HO.out.2.fin (by omega)
              have HSS := Hid.mk' (And.intro hsame hsort)
              have HW := Hid.mk' HO.out.1
              clear HO hsame hsort
              obtain ⟨Gb, hGb⟩ : ∃ q, wr.heap.size = q := ⟨_, rfl⟩
              obtain ⟨fo, hfo, hfo2⟩ := HW.out.bl.ro
              obtain ⟨dS, hS, hS2⟩ := HW.out.bl.rs
              have lS := row_lt hS
              have lO := row_lt hfo
              have lW := row_lt HW.out.rw
              have hso := sortStates_any (Gb + 1) Gb Ob k key Sb dS ((wr.alloc (.cells #[.slice (some ⟨Ob, 0, none⟩) k k] 26)).alloc (.cells (tc Gb) 49)) (by omega) (by omega) (by have := HW.out.bl.os; omega) (tree_made hGb hfo hfo2) (row_alloc (row_alloc hS _) _) hn
                (fun q hq => by rw [hS2 q hq, ← HR2.out q hq]; exact (HMD.out q hq).1) (fun q hq => by rw [hS2 q hq]; rfl)
              have HSO := Hid.mk' hso
              have HSR : Hid (∀ j, j < k → dS j = dR j) := fun j hj => by rw [hS2 j hj, HR2.out j hj]
              clear hso hfo hfo2 hS hS2 lS lO lW
              go_upto_region 46 with (first | (refine wpList_build_at rfl 49 #[(2, .tmp 170)] rfl #[(2, .slice (some ⟨Gb, 0, none⟩) 1 1)] rfl _ (run_build49 _ _) ?_) | (refine wpList_box_at rfl 49 (.tmp 171) rfl _ rfl ?_))
              have HW2 : Hid (Wn w ((wr.alloc (.cells #[.slice (some ⟨Ob, 0, none⟩) k k] 26)).alloc (.cells (tc Gb) 49)) Ob Sb Rb Wb k key Cd e0) := (HW.out.more (World.grownBy_alloc _ _ _)).more (World.grownBy_alloc _ _ _)
              clear HW hGb
              generalize (wr.alloc (.cells #[.slice (some ⟨Ob, 0, none⟩) k k] 26)).alloc (.cells (tc Gb) 49) = W9 at *
              generalize Gb + 1 = Tb at *
              go_upto_region 47 with (first | (go_at_call 6; refine HSO.out.mono ?_; rintro _ w9 ⟨⟨g9, d9, rfl, hrow9, hsame9, hsort9⟩, hgr9⟩))
              have HEQ : Hid (∀ j, j < k → d9 j = e0 j) := same_row HSR.out hsame9 hsort9 HSS.out.1 HSS.out.2
              have HEND : Hid (w9.rowIs g9 41 (k * 5) (rc d9) ∧ w9.rowIs Wb 41 (k * 5) (rc e0) ∧ w.grownBy w9 none) := ⟨hrow9, row_stay HW2.out.rw hgr9 (by have := HW2.out.wS; simp; omega), grown_comp HW2.out.bl.gr hgr9 HW2.out.bl.oS⟩
              clear hrow9 hsame9 hsort9 hgr9 HSO HSS HW2 HSR
              have hkk : ((k : Int) != (k : Int)) = false := by simp
              go_wp2
              go_loopw [24] (fun vj wr => ∃ j : Nat, j ≤ k ∧ vj = .int .i64 j ∧ Hid (wr.rowIs g9 41 (k * 5) (rc d9) ∧ wr.rowIs Wb 41 (k * 5) (rc e0) ∧ w.grownBy wr none)) (fun vj _ => k - (intOf vj).toNat)
              case atStart => exact ⟨0, Nat.zero_le _, rfl, HEND⟩
              case round =>
                clear HEND
                obtain ⟨j, hj, rfl, HE⟩ := hrel
                by_cases hjk : j < k
                · have jk : (j : Int) < (k : Int) := by omega
                  obtain ⟨x0, x1, x2, x3, x4⟩ := row_five HE.out.1 j hjk rfl
                  obtain ⟨y0, y1, y2, y3, y4⟩ := row_five HE.out.2.1 j hjk rfl
                  rw [HEQ.out j hjk] at x0 x2 x3 x4
                  obtain ⟨x, hx⟩ : ∃ x, e0 j = x := ⟨_, rfl⟩
                  rw [hx] at x0 x2 x3 x4 y0 y2 y3 y4
                  clear hx
                  go_upto_region 52 with fail
                  go_quiet (fail)
                  have HE2 : Hid ((wr.drewN nq).rowIs g9 41 (k * 5) (rc d9) ∧ (wr.drewN nq).rowIs Wb 41 (k * 5) (rc e0) ∧ w.grownBy (wr.drewN nq) none) := ⟨row_stay HE.out.1 (grown_drewN (World.grownBy.refl _ none) nq) (by simp), row_stay HE.out.2.1 (grown_drewN (World.grownBy.refl _ none) nq) (by simp), grown_drewN HE.out.2.2 nq⟩
                  clear x0 x1 x2 x3 x4 y0 y1 y2 y3 y4 HE
                  generalize wr.drewN nq = W10 at *
                  go_wp2
                  go_roundw
                  case rel =>
                    first
                      | exact ⟨j + 1, by omega, by go_num, HE2⟩
                      | ((repeat apply Exists.intro); exact ⟨⟨j + 1, by omega, by go_num, HE2⟩, rfl⟩)
                  case measure => simp [intOf]; omega
                · obtain rfl : j = k := by omega
                  go_wp2
                  go_ret
                  exact ⟨rfl, HE.out.2.2⟩

end Go.Proofs.YbonekuxeGreat
