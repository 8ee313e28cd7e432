/-
  Keys, heads, digits and the orders that they make. No Go in sight.
-/
import Derived.Test.YbonekuxeGreatGrow
import Derived.Test.YbonekuxeGreatRadix
namespace Go.Proofs.YbonekuxeGreat
open Go.Proofs.YbonekuxeGreat.Plain

/-! ### Lists of bytes -/
abbrev cb := Lib.compareBytes

theorem cb_self : ∀ a, cb a a = 0
  | [] => rfl
  | x :: a => by simp only [cb, Lib.compareBytes, UInt8.lt_irrefl, if_false]; exact cb_self a

theorem cb_eq : ∀ a b, cb a b = 0 → a = b
  | [], [], _ => rfl
  | [], _ :: _, h => by simp [cb, Lib.compareBytes] at h
  | _ :: _, [], h => by simp [cb, Lib.compareBytes] at h
  | x :: a, y :: b, h => by
    simp only [cb, Lib.compareBytes] at h
    by_cases h1 : x < y
    · rw [if_pos h1] at h; omega
    · rw [if_neg h1] at h
      by_cases h2 : y < x
      · rw [if_pos h2] at h; omega
      · rw [if_neg h2] at h
        have h3 : x = y := UInt8.le_antisymm (UInt8.not_lt.1 h2) (UInt8.not_lt.1 h1)
        rw [h3, cb_eq a b h]

theorem cb_swap : ∀ a b, cb b a = - cb a b
  | [], [] => rfl
  | [], _ :: _ => rfl
  | _ :: _, [] => rfl
  | x :: a, y :: b => by
    simp only [cb, Lib.compareBytes]
    by_cases h1 : x < y
    · rw [if_pos h1, if_neg (UInt8.not_lt.2 (UInt8.le_of_lt h1)), if_pos h1]; rfl
    · rw [if_neg h1, if_neg h1]
      by_cases h2 : y < x
      · rw [if_pos h2, if_pos h2]
      · rw [if_neg h2, if_neg h2]; exact cb_swap a b

theorem cb_trans : ∀ a b c, cb a b < 0 → cb b c < 0 → cb a c < 0
  | [], [], _, h, _ => by simp [cb, Lib.compareBytes] at h
  | _ :: _, [], _, h, _ => by simp [cb, Lib.compareBytes] at h
  | _, _ :: _, [], _, h => by simp [cb, Lib.compareBytes] at h
  | [], _ :: _, _ :: _, _, _ => by simp [cb, Lib.compareBytes]
  | x :: a, y :: b, z :: c, h1, h2 => by
    simp only [cb, Lib.compareBytes] at h1 h2 ⊢
    by_cases k1 : x < y
    · by_cases k2 : y < z
      · rw [if_pos (UInt8.lt_trans k1 k2)]; omega
      · rw [if_neg k2] at h2
        by_cases k3 : z < y
        · rw [if_pos k3] at h2; omega
        · have : y = z := UInt8.le_antisymm (UInt8.not_lt.1 k3) (UInt8.not_lt.1 k2)
          rw [← this, if_pos k1]; omega
    · rw [if_neg k1] at h1
      by_cases k2 : y < x
      · rw [if_pos k2] at h1; omega
      · rw [if_neg k2] at h1
        have hxy : x = y := UInt8.le_antisymm (UInt8.not_lt.1 k2) (UInt8.not_lt.1 k1)
        subst hxy
        by_cases k3 : x < z
        · rw [if_pos k3]; omega
        · rw [if_neg k3] at h2 ⊢
          by_cases k4 : z < x
          · rw [if_pos k4] at h2; omega
          · rw [if_neg k4] at h2 ⊢
            exact cb_trans a b c h1 h2

/-- the first m bytes as a number, filled up with zeros -/
def hdN : Nat → List UInt8 → Nat
  | 0, _ => 0
  | _ + 1, [] => 0
  | m + 1, x :: xs => x.toNat * 256 ^ m + hdN m xs

theorem hdN_lt : ∀ m l, hdN m l < 256 ^ m
  | 0, _ => by simp [hdN]
  | m + 1, [] => by simp [hdN, Nat.pow_pos]
  | m + 1, x :: xs => by
    have h1 := hdN_lt m xs
    have h2 : x.toNat < 256 := x.toNat_lt
    have h3 := Nat.mul_le_mul_right (256 ^ m) (show x.toNat + 1 ≤ 256 by omega)
    rw [Nat.add_mul, Nat.one_mul] at h3
    simp only [hdN, Nat.pow_succ]
    omega

def noZero (l : List UInt8) : Prop := ∀ x, x ∈ l → x ≠ 0

theorem noZero.tail {x : UInt8} {l : List UInt8} (h : noZero (x :: l)) : noZero l := fun y hy => h y (List.mem_cons_of_mem _ hy)

theorem hdN_nil (m : Nat) : hdN m [] = 0 := by cases m <;> rfl

theorem hdN_pos {x : UInt8} {l : List UInt8} (h : noZero (x :: l)) (m : Nat) : 0 < hdN (m + 1) (x :: l) := by
  have h1 : x ≠ 0 := h x List.mem_cons_self
  have h2 : 0 < x.toNat := by
    rcases Nat.eq_zero_or_pos x.toNat with h | h
    · exact absurd (UInt8.toNat_inj.1 h) h1
    · exact h
  simp only [hdN]
  have h3 : 0 < x.toNat * 256 ^ m := Nat.mul_pos h2 (Nat.pow_pos (by omega))
  omega

theorem head_lt (x y m u v : Nat) (hv : v < 256 ^ m) (h : x * 256 ^ m + u < y * 256 ^ m + v) : x < y ∨ (x = y ∧ u < v) := by
  rcases Nat.lt_trichotomy x y with h1 | h1 | h1
  · exact .inl h1
  · subst h1; exact .inr ⟨rfl, by omega⟩
  · have h3 := Nat.mul_le_mul_right (256 ^ m) (show y + 1 ≤ x from h1)
    rw [Nat.add_mul, Nat.one_mul] at h3
    omega

theorem cb_of_hd : ∀ m a b, noZero a → noZero b → hdN m a < hdN m b → cb a b < 0
  | 0, _, _, _, _, h => by simp [hdN] at h
  | m + 1, _, [], _, _, h => by simp [hdN] at h
  | m + 1, [], _ :: _, _, _, _ => by simp [cb, Lib.compareBytes]
  | m + 1, x :: a, y :: b, ha, hb, h => by
    simp only [hdN] at h
    simp only [cb, Lib.compareBytes]
    rcases head_lt _ _ _ _ _ (hdN_lt m b) h with h1 | ⟨h1, h2⟩
    · rw [if_pos (UInt8.lt_iff_toNat_lt.2 h1)]; omega
    · have := UInt8.toNat_inj.1 h1
      subst this
      rw [if_neg (UInt8.lt_irrefl _), if_neg (UInt8.lt_irrefl _)]
      exact cb_of_hd m a b ha.tail hb.tail h2

theorem eq_of_hd : ∀ m a b, noZero a → noZero b → a.length ≤ m → b.length ≤ m → hdN m a = hdN m b → a = b
  | 0, [], [], _, _, _, _, _ => rfl
  | 0, _ :: _, _, _, _, h, _, _ => by simp at h
  | 0, [], _ :: _, _, _, _, h, _ => by simp at h
  | m + 1, [], [], _, _, _, _, _ => rfl
  | m + 1, [], y :: b, _, hb, _, _, h => by
    have := hdN_pos hb m
    simp only [hdN] at h this
    omega
  | m + 1, x :: a, [], ha, _, _, _, h => by
    have := hdN_pos ha m
    simp only [hdN] at h this
    omega
  | m + 1, x :: a, y :: b, ha, hb, la, lb, h => by
    simp only [hdN] at h
    have h1 := hdN_lt m a
    have h2 := hdN_lt m b
    have hxy : x.toNat = y.toNat := by
      rcases Nat.lt_trichotomy x.toNat y.toNat with h3 | h3 | h3
      · have := Nat.mul_le_mul_right (256 ^ m) (show x.toNat + 1 ≤ y.toNat from h3)
        rw [Nat.add_mul, Nat.one_mul] at this
        omega
      · exact h3
      · have := Nat.mul_le_mul_right (256 ^ m) (show y.toNat + 1 ≤ x.toNat from h3)
        rw [Nat.add_mul, Nat.one_mul] at this
        omega
    have := UInt8.toNat_inj.1 hxy
    subst this
    rw [eq_of_hd m a b ha.tail hb.tail (by simpa using la) (by simpa using lb) (by omega)]

/-! ### Digits -/
def dig (x : El) (p : Nat) : Nat := if p < 8 then x.h / 2 ^ (8 * p) % 256 else x.c
def low : Nat → El → Nat
  | 0, _ => 0
  | p + 1, x => dig x p * 256 ^ p + low p x
def RL (p : Nat) (x y : El) : Prop := low p x < low p y ∨ (low p x = low p y ∧ x.i < y.i)

theorem dig_lt {x : El} (hc : x.c < 256) (p : Nat) : dig x p < 256 := by
  unfold dig
  split
  · exact Nat.mod_lt _ (by omega)
  · exact hc

theorem low_lt {x : El} (hc : x.c < 256) : ∀ p, low p x < 256 ^ p
  | 0 => by simp [low]
  | p + 1 => by
    have h1 := low_lt hc p
    have h3 := Nat.mul_le_mul_right (256 ^ p) (show dig x p + 1 ≤ 256 from dig_lt hc p)
    rw [Nat.add_mul, Nat.one_mul] at h3
    simp only [low, Nat.pow_succ]
    omega

theorem RL_lt {x y : El} (hx : x.c < 256) (p : Nat) (h : dig x p < dig y p) : RL (p + 1) x y := by
  left
  have h1 := low_lt hx p
  have h3 := Nat.mul_le_mul_right (256 ^ p) (show dig x p + 1 ≤ dig y p from h)
  rw [Nat.add_mul, Nat.one_mul] at h3
  simp only [low]
  omega

theorem RL_eq {x y : El} (p : Nat) (h : dig x p = dig y p) (hr : RL p x y) : RL (p + 1) x y := by
  unfold RL at *
  simp only [low, h]
  omega

theorem low_mod (x : El) : ∀ p, p ≤ 8 → low p x = x.h % 256 ^ p
  | 0, _ => by simp [low, Nat.mod_one]
  | p + 1, h => by
    rw [Nat.mod_pow_succ, low, low_mod x p (by omega)]
    unfold dig
    rw [if_pos (by omega), show (2 : Nat) ^ (8 * p) = 256 ^ p from by rw [Nat.pow_mul]]
    rw [Nat.mul_comm]
    omega

theorem low_nine {x : El} (hh : x.h < 256 ^ 8) : low 9 x = x.c * 256 ^ 8 + x.h := by
  have h1 : low 9 x = dig x 8 * 256 ^ 8 + low 8 x := rfl
  rw [h1, low_mod x 8 (Nat.le_refl _), Nat.mod_eq_of_lt hh]
  rfl

def CH (x y : El) : Prop := x.c < y.c ∨ (x.c = y.c ∧ x.h < y.h)

theorem RL_nine {x y : El} (hx : x.h < 256 ^ 8) (hy : y.h < 256 ^ 8) (h : RL 9 x y) : CH x y ∨ (x.c = y.c ∧ x.h = y.h ∧ x.i < y.i) := by
  unfold RL at h
  rw [low_nine hx, low_nine hy] at h
  unfold CH
  omega

theorem CH.trans {x y z : El} (h : CH x y) (k : CH y z) : CH x z := by unfold CH at *; omega

/-! ### The orders -/
/-- by the key, then by the number -/
def RK (key : Nat → ByteArray) (x y : El) : Prop := cb (key x.i).data.toList (key y.i).data.toList < 0 ∨ (cb (key x.i).data.toList (key y.i).data.toList = 0 ∧ x.i < y.i)
/-- by the code, then by the key, then by the number -/
def RW (key : Nat → ByteArray) (x y : El) : Prop := x.c < y.c ∨ (x.c = y.c ∧ RK key x y)

theorem RK.trans {key : Nat → ByteArray} {x y z : El} (h : RK key x y) (k : RK key y z) : RK key x z := by
  unfold RK at *
  rcases h with h | ⟨h1, h2⟩ <;> rcases k with k | ⟨k1, k2⟩
  · exact .inl (cb_trans _ _ _ h k)
  · rw [← cb_eq _ _ k1]; exact .inl h
  · rw [cb_eq _ _ h1]; exact .inl k
  · rw [cb_eq _ _ h1, k1]; exact .inr ⟨rfl, by omega⟩

theorem RK.irr {key : Nat → ByteArray} {x : El} (h : RK key x x) : False := by
  unfold RK at h
  rw [cb_self] at h
  omega

theorem RW.trans {key : Nat → ByteArray} {x y z : El} (h : RW key x y) (k : RW key y z) : RW key x z := by
  unfold RW at *
  rcases h with h | ⟨h1, h2⟩ <;> rcases k with k | ⟨k1, k2⟩
  · exact .inl (by omega)
  · exact .inl (by omega)
  · exact .inl (by omega)
  · exact .inr ⟨by omega, h2.trans k2⟩

theorem RW.irr {key : Nat → ByteArray} {x : El} (h : RW key x x) : False := by
  unfold RW at h
  rcases h with h | ⟨_, h⟩
  · omega
  · exact h.irr

/-- a state that was made from its key -/
structure Made (key : Nat → ByteArray) (n : Nat) (x : El) : Prop where
  i : x.i < n
  c : x.c < 256
  h : x.h = hdN 8 (key x.i).data.toList
  l : x.l = decide (8 < (key x.i).data.toList.length)
  z : noZero (key x.i).data.toList

theorem Made.hlt {key : Nat → ByteArray} {n : Nat} {x : El} (h : Made key n x) : x.h < 256 ^ 8 := by rw [h.h]; exact hdN_lt 8 _

theorem CH.rw {key : Nat → ByteArray} {n : Nat} {x y : El} (hx : Made key n x) (hy : Made key n y) (h : CH x y) : RW key x y := by
  unfold CH at h
  unfold RW
  rcases h with h | ⟨h1, h2⟩
  · exact .inl h
  · rw [hx.h, hy.h] at h2
    exact .inr ⟨h1, .inl (cb_of_hd 8 _ _ hx.z hy.z h2)⟩

/-- the comparator on states of one code and one head -/
theorem ord_run (key : Nat → ByteArray) (n c h : Nat) : Ord (fun x => Made key n x ∧ x.c = c ∧ x.h = h) key n (RK key) := by
  refine ⟨fun x hx => hx.1.i, fun x y z => RK.trans, fun x y ⟨hx, xc, xh⟩ ⟨hy, yc, yh⟩ hi => ?_⟩
  have hor : orE y x = 0 := by simp [orE, orI, cmpN, xc, xh, yc, yh]
  by_cases hs : x.l = false ∧ y.l = false
  · have h1 : cmpE key y x = 0 := by simp [cmpE, hor, hs.1, hs.2]
    have lx : (key x.i).data.toList.length ≤ 8 := by have := hx.l; rw [hs.1] at this; simpa using this.symm
    have ly : (key y.i).data.toList.length ≤ 8 := by have := hy.l; rw [hs.2] at this; simpa using this.symm
    have := eq_of_hd 8 _ _ hx.z hy.z lx ly (by rw [← hx.h, ← hy.h, xh, yh])
    refine .inr ⟨by omega, .inr ⟨?_, hi⟩⟩
    rw [this]; exact cb_self _
  · have h1 : cmpE key y x = cb (key y.i).data.toList (key x.i).data.toList := by
      unfold cmpE
      rw [if_neg]
      simp only [hor]
      intro hh
      rcases hh with hh | hh
      · exact hh rfl
      · exact hs ⟨hh.2, hh.1⟩
    rw [h1]
    by_cases hlt : cb (key y.i).data.toList (key x.i).data.toList < 0
    · exact .inl ⟨hlt, .inl hlt⟩
    · refine .inr ⟨hlt, ?_⟩
      have := cb_swap (key y.i).data.toList (key x.i).data.toList
      unfold RK
      omega

/-- a run where no key runs on -/
theorem short_run {key : Nat → ByteArray} {n : Nat} {x y : El} (hx : Made key n x) (hy : Made key n y) (h : x.h = y.h) (xl : x.l = false) (yl : y.l = false) (hi : x.i < y.i) : RK key x y := by
  have lx : (key x.i).data.toList.length ≤ 8 := by have := hx.l; rw [xl] at this; simpa using this.symm
  have ly : (key y.i).data.toList.length ≤ 8 := by have := hy.l; rw [yl] at this; simpa using this.symm
  have := eq_of_hd 8 _ _ hx.z hy.z lx ly (by rw [← hx.h, ← hy.h, h])
  refine .inr ⟨?_, hi⟩
  rw [this]; exact cb_self _

/-- the runs ahead of a are done -/
structure Runs (key : Nat → ByteArray) (n a : Nat) (d e : Nat → El) : Prop where
  same : Same 0 n d e
  rest : ∀ k, a ≤ k → e k = d k
  srt : Sorted (RW key) 0 a e
  cut : ∀ u v, u < a → a ≤ v → v < n → CH (e u) (e v)

theorem Runs.start (key : Nat → ByteArray) (n : Nat) (d : Nat → El) : Runs key n 0 d d :=
  ⟨Same.refl _ _ _, fun _ _ => rfl, fun i j _ _ h => by omega, fun u v h => by omega⟩

/-- one run more -/
theorem Runs.step {key : Nat → ByteArray} {n a b : Nat} {d e e' : Nat → El} (h : Runs key n a d e) (hm : ∀ k, k < n → Made key n (d k)) (hs : Sorted (RL 9) 0 n d) (hab : a < b) (hbn : b ≤ n)
    (hrun : ∀ k, a ≤ k → k < b → (d k).c = (d a).c ∧ (d k).h = (d a).h) (hend : b < n → ¬ ((d b).c = (d a).c ∧ (d b).h = (d a).h)) (hse : Same a b e e') (hso : Sorted (RK key) a b e') : Runs key n b d e' := by
  have hfr : ∀ k, a ≤ k → k < b → ∃ l, a ≤ l ∧ l < b ∧ e' k = d l := fun k k1 k2 => by
    obtain ⟨l, l1, l2, e1⟩ := hse.fwd k k1 k2
    exact ⟨l, l1, l2, by rw [e1, h.rest l l1]⟩
  have hme : ∀ k, k < n → Made key n (e k) := fun k hk => by
    obtain ⟨l, _, l2, e1⟩ := h.same.fwd k (Nat.zero_le _) hk
    rw [e1]; exact hm l l2
  refine ⟨h.same.trans (hse.widen (Nat.zero_le _) hbn), fun k hk => by rw [hse.out k (by omega), h.rest k (by omega)], fun u v _ h1 h2 => ?_, fun u v h1 h2 h3 => ?_⟩
  · by_cases hu : u < a
    · rw [hse.out u (by omega)]
      by_cases hv : v < a
      · rw [hse.out v (by omega)]; exact h.srt u v (Nat.zero_le _) h1 hv
      · obtain ⟨l, l1, l2, e1⟩ := hfr v (by omega) h2
        rw [e1, ← h.rest l l1]
        exact (h.cut u l hu l1 (by omega)).rw (hme u (by omega)) (hme l (by omega))
    · obtain ⟨l, l1, l2, e1⟩ := hfr u (by omega) (by omega)
      obtain ⟨m, m1, m2, e2⟩ := hfr v (by omega) h2
      refine .inr ⟨?_, hso u v (by omega) h1 h2⟩
      rw [e1, e2, (hrun l l1 l2).1, (hrun m m1 m2).1]
  · rw [hse.out v (by omega), h.rest v (by omega)]
    have hab' : CH (d a) (d v) := by
      have h4 : CH (d a) (d b) := by
        rcases RL_nine (hm a (by omega)).hlt (hm b (by omega)).hlt (hs a b (Nat.zero_le _) hab (by omega)) with h5 | h5
        · exact h5
        · exact absurd ⟨h5.1.symm, h5.2.1.symm⟩ (hend (by omega))
      rcases Nat.lt_or_ge b v with h5 | h5
      · rcases RL_nine (hm b (by omega)).hlt (hm v (by omega)).hlt (hs b v (Nat.zero_le _) h5 h3) with h6 | h6
        · exact h4.trans h6
        · unfold CH at *; omega
      · obtain rfl : b = v := by omega
        exact h4
    by_cases hu : u < a
    · rw [hse.out u (by omega)]
      have := h.cut u v hu (by omega) h3
      rw [h.rest v (by omega)] at this
      exact this
    · obtain ⟨l, l1, l2, e1⟩ := hfr u (by omega) h1
      have := hrun l l1 l2
      rw [e1]
      unfold CH at *
      omega

end Go.Proofs.YbonekuxeGreat
