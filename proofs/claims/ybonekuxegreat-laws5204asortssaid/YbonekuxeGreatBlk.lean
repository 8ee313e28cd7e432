/-
  The plain theory of a stable sort by blocks: blocks sorted, then merged in pairs. No Go in sight.
-/
import Derived.Test.YbonekuxeGreatSymp
namespace Go.Proofs.YbonekuxeGreat.Plain

section
variable {α : Type} {R : α → α → Prop} {ix : α → Nat}

/-- all numbers ahead of z are below all numbers from z on -/
def Bd (ix : α → Nat) (s t z : Nat) (d : Nat → α) : Prop := ∀ u v, s ≤ u → u < z → z ≤ v → v < t → ix (d u) < ix (d v)

theorem Bd.keep {s t z x y : Nat} {d d' : Nat → α} (h : Bd ix s t z d) (hs : Same x y d d') (hz : z ≤ x ∨ y ≤ z) (hx : s ≤ x) (hy : y ≤ t) : Bd ix s t z d' := by
  intro u v u1 u2 v1 v2
  obtain ⟨u', e1, a1, a2⟩ : ∃ u', d' u = d u' ∧ s ≤ u' ∧ u' < z := by
    by_cases hu : x ≤ u ∧ u < y
    · obtain ⟨l, l1, l2, e⟩ := hs.fwd u hu.1 hu.2
      exact ⟨l, e, by omega, by omega⟩
    · exact ⟨u, hs.out u (by omega), u1, u2⟩
  obtain ⟨v', e2, b1, b2⟩ : ∃ v', d' v = d v' ∧ z ≤ v' ∧ v' < t := by
    by_cases hv : x ≤ v ∧ v < y
    · obtain ⟨l, l1, l2, e⟩ := hs.fwd v hv.1 hv.2
      exact ⟨l, e, by omega, by omega⟩
    · exact ⟨v, hs.out v (by omega), v1, v2⟩
  rw [e1, e2]
  exact h u' v' a1 a2 b1 b2

/-- sorted as far as t reaches -/
def Sub (R : α → α → Prop) (x y t : Nat) (d : Nat → α) : Prop := ∀ u v, x ≤ u → u < v → v < y → v < t → R (d u) (d v)

theorem Sub.keep {x y t x' y' : Nat} {d d' : Nat → α} (h : Sub R x y t d) (hs : Same x' y' d d') (hz : y ≤ x' ∨ y' ≤ x) : Sub R x y t d' := by
  intro u v h1 h2 h3 h4
  rw [hs.out u (by omega), hs.out v (by omega)]
  exact h u v h1 h2 h3 h4

theorem mul_lt_le {r p : Nat} (X : Nat) (h : r < p) : r * X + X ≤ p * X := by
  have := Nat.mul_le_mul_right X (show r + 1 ≤ p from h)
  rw [Nat.succ_mul] at this
  exact this

structure L1 (R : α → α → Prop) (ix : α → Nat) (s t B q : Nat) (d0 d : Nat → α) : Prop where
  same : Same s t d0 d
  srt : ∀ r, r < q → Sub R (s + r * B) (s + r * B + B) t d
  bd : ∀ r, Bd ix s t (s + r * B) d
  inc : ∀ k l, s + q * B ≤ k → k < l → l < t → ix (d k) < ix (d l)

theorem L1.start {s t : Nat} (B : Nat) {d : Nat → α} (h : ∀ k l, s ≤ k → k < l → l < t → ix (d k) < ix (d l)) : L1 R ix s t B 0 d d :=
  ⟨Same.refl _ _ _, fun r h => by omega, fun r u v h1 h2 h3 h4 => h u v h1 (by omega) h4, fun k l h1 h2 h3 => h k l (by omega) h2 h3⟩

theorem L1.step {s t B q : Nat} {d0 d d' : Nat → α} (h : L1 R ix s t B q d0 d) (ht : s + q * B + B ≤ t) (hs : Same (s + q * B) (s + q * B + B) d d') (ho : Sorted R (s + q * B) (s + q * B + B) d') : L1 R ix s t B (q + 1) d0 d' := by
  refine ⟨h.same.trans (hs.widen (by omega) ht), fun r hr => ?_, fun r => ?_, fun k l h1 h2 h3 => ?_⟩
  · rcases Nat.lt_or_ge r q with h1 | h1
    · have := mul_lt_le B h1
      exact (h.srt r h1).keep hs (by omega)
    · obtain rfl : r = q := by omega
      exact fun u v a1 a2 a3 _ => ho u v a1 a2 a3
  · refine (h.bd r).keep hs ?_ (by omega) ht
    rcases Nat.lt_or_ge q r with h1 | h1
    · have := mul_lt_le B h1; omega
    · have := Nat.mul_le_mul_right B h1; omega
  · rw [Nat.succ_mul] at h1
    rw [hs.out k (by omega), hs.out l (by omega)]
    exact h.inc k l (by omega) h2 h3

/-- blocks of B, all sorted -/
structure MM (R : α → α → Prop) (ix : α → Nat) (s t B : Nat) (d0 d : Nat → α) : Prop where
  same : Same s t d0 d
  srt : ∀ r, Sub R (s + r * B) (s + r * B + B) t d
  bd : ∀ r, Bd ix s t (s + r * B) d

theorem L1.fin {s t B q : Nat} {d0 d d' : Nat → α} (h : L1 R ix s t B q d0 d) (h1 : s + q * B ≤ t) (h2 : t < s + q * B + B) (hs : Same (s + q * B) t d d') (ho : Sorted R (s + q * B) t d') : MM R ix s t B d0 d' := by
  refine ⟨h.same.trans (hs.widen (by omega) (Nat.le_refl _)), fun r => ?_, fun r => ?_⟩
  · rcases Nat.lt_trichotomy r q with hr | hr | hr
    · have := mul_lt_le B hr
      exact (h.srt r hr).keep hs (by omega)
    · subst hr
      exact fun u v a1 a2 a3 a4 => ho u v a1 a2 a4
    · have := mul_lt_le B hr
      intro u v a1 a2 a3 a4
      omega
  · by_cases hr : s + r * B ≤ t
    · refine (h.bd r).keep hs ?_ (by omega) (Nat.le_refl _)
      rcases Nat.lt_or_ge q r with h3 | h3
      · have := mul_lt_le B h3; omega
      · have := Nat.mul_le_mul_right B h3; omega
    · intro u v a1 a2 a3 a4; omega

theorem MM.all {s t B : Nat} {d0 d : Nat → α} (h : MM R ix s t B d0 d) (hB : t ≤ s + B) : Same s t d0 d ∧ Sorted R s t d :=
  ⟨h.same, fun u v h1 h2 h3 => h.srt 0 u v (by omega) h2 (by omega) h3⟩

structure L2 (R : α → α → Prop) (ix : α → Nat) (s t B p : Nat) (d0 d : Nat → α) : Prop where
  same : Same s t d0 d
  fin : ∀ r, r < p → Sub R (s + r * (2 * B)) (s + r * (2 * B) + 2 * B) t d
  todo : ∀ r, 2 * p ≤ r → Sub R (s + r * B) (s + r * B + B) t d
  bd2 : ∀ r, Bd ix s t (s + r * (2 * B)) d
  bd1 : ∀ r, 2 * p ≤ r → Bd ix s t (s + r * B) d

theorem two_mul_eq (p B : Nat) : 2 * p * B = p * (2 * B) := by rw [Nat.mul_comm 2 p, Nat.mul_assoc]

theorem MM.pairs {s t B : Nat} {d0 d : Nat → α} (h : MM R ix s t B d0 d) : L2 R ix s t B 0 d0 d :=
  ⟨h.same, fun r hr => by omega, fun r _ => h.srt r, fun r => by rw [← two_mul_eq]; exact h.bd _, fun r _ => h.bd r⟩

theorem L2.two {s t B p a e : Nat} {d0 d : Nat → α} (h : L2 R ix s t B p d0 d) (ha : a = p * (2 * B)) (h1 : s + a + B ≤ e) (h2 : e ≤ s + a + 2 * B) (h3 : e ≤ t) : Two R ix (s + a) (s + a + B) e d := by
  have e1 : s + 2 * p * B = s + a := by rw [two_mul_eq, ha]
  have e2 : s + (2 * p + 1) * B = s + a + B := by rw [Nat.succ_mul]; omega
  refine ⟨fun u v a1 a2 a3 => ?_, fun u v a1 a2 a3 => ?_, fun u v a1 a2 a3 a4 => ?_⟩
  · exact h.todo (2 * p) (Nat.le_refl _) u v (by omega) a2 (by omega) (by omega)
  · exact h.todo (2 * p + 1) (by omega) u v (by omega) a2 (by omega) (by omega)
  · exact h.bd1 (2 * p + 1) (by omega) u v (by omega) (by omega) (by omega) (by omega)

theorem L2.step {s t B p a : Nat} {d0 d d' : Nat → α} (h : L2 R ix s t B p d0 d) (ha : a = p * (2 * B)) (ht : s + a + 2 * B ≤ t) (hs : Same (s + a) (s + a + 2 * B) d d') (ho : Sorted R (s + a) (s + a + 2 * B) d') : L2 R ix s t B (p + 1) d0 d' := by
  have e1 : 2 * p * B = a := by rw [two_mul_eq, ha]
  refine ⟨h.same.trans (hs.widen (by omega) ht), fun r hr => ?_, fun r hr => ?_, fun r => ?_, fun r hr => ?_⟩
  · rcases Nat.lt_or_ge r p with h1 | h1
    · have := mul_lt_le (2 * B) h1
      exact (h.fin r h1).keep hs (by omega)
    · obtain rfl : r = p := by omega
      rw [← ha]
      exact fun u v a1 a2 a3 _ => ho u v a1 a2 a3
  · refine (h.todo r (by omega)).keep hs ?_
    have := Nat.mul_le_mul_right B (show 2 * p + 2 ≤ r by omega)
    rw [Nat.add_mul] at this
    omega
  · refine (h.bd2 r).keep hs ?_ (by omega) ht
    rcases Nat.lt_or_ge p r with h1 | h1
    · have := mul_lt_le (2 * B) h1; omega
    · have := Nat.mul_le_mul_right (2 * B) h1; omega
  · refine (h.bd1 r (by omega)).keep hs ?_ (by omega) ht
    have := Nat.mul_le_mul_right B (show 2 * p + 2 ≤ r by omega)
    rw [Nat.add_mul] at this
    omega

theorem L2.end1 {s t B p a : Nat} {d0 d d' : Nat → α} (h : L2 R ix s t B p d0 d) (ha : a = p * (2 * B)) (h2 : t < s + a + 2 * B) (hs : Same (s + a) t d d') (ho : Sorted R (s + a) t d') : MM R ix s t (2 * B) d0 d' := by
  refine ⟨h.same.trans (hs.widen (by omega) (Nat.le_refl _)), fun r => ?_, fun r => ?_⟩
  · rcases Nat.lt_trichotomy r p with hr | hr | hr
    · have := mul_lt_le (2 * B) hr
      exact (h.fin r hr).keep hs (by omega)
    · subst hr
      rw [← ha]
      exact fun u v a1 a2 a3 a4 => ho u v a1 a2 a4
    · have := mul_lt_le (2 * B) hr
      intro u v a1 a2 a3 a4
      omega
  · by_cases hr : s + r * (2 * B) ≤ t
    · refine (h.bd2 r).keep hs ?_ (by omega) (Nat.le_refl _)
      rcases Nat.lt_or_ge p r with h3 | h3
      · have := mul_lt_le (2 * B) h3; omega
      · have := Nat.mul_le_mul_right (2 * B) h3; omega
    · intro u v a1 a2 a3 a4; omega

theorem L2.end2 {s t B p a : Nat} {d0 d : Nat → α} (h : L2 R ix s t B p d0 d) (ha : a = p * (2 * B)) (hB : 0 < B) (h2 : t ≤ s + a + B) : MM R ix s t (2 * B) d0 d := by
  have e1 : s + 2 * p * B = s + a := by rw [two_mul_eq, ha]
  refine h.end1 ha (by omega) (Same.refl _ _ _) fun u v a1 a2 a3 => ?_
  exact h.todo (2 * p) (Nat.le_refl _) u v (by omega) a2 (by omega) a3

end
end Go.Proofs.YbonekuxeGreat.Plain
