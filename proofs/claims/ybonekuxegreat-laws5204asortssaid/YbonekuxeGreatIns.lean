/-
  The plain theory of an insertion sort that compares neighbours. No Go in sight.
-/
import Derived.Test.YbonekuxeGreatMerge
namespace Go.Proofs.YbonekuxeGreat.Plain

section
variable {α : Type} {R : α → α → Prop} {ix : α → Nat}

/-- [a, i) is sorted; every place from i on holds what stood there, and its number is above all numbers ahead of it. -/
structure Outer (R : α → α → Prop) (ix : α → Nat) (a b i : Nat) (d0 d : Nat → α) : Prop where
  same : Same a b d0 d
  srt : Sorted R a i d
  low : ∀ k l, a ≤ k → k < l → i ≤ l → l < b → ix (d k) < ix (d l)

theorem Outer.start (a b : Nat) (d : Nat → α) (h : ∀ k l, a ≤ k → k < l → l < b → ix (d k) < ix (d l)) : Outer R ix a b (a + 1) d d :=
  ⟨Same.refl _ _ _, fun i j h1 h2 h3 => by omega, fun k l h1 h2 _ h4 => h k l h1 h2 h4⟩

/-- the element on its way down, now at j -/
structure Inner (R : α → α → Prop) (ix : α → Nat) (a i j : Nat) (d e : Nat → α) : Prop where
  same : Same a (i + 1) d e
  low : ∀ k, a ≤ k → k ≤ i → k ≠ j → ix (e k) < ix (e j)
  srt : ∀ p q, a ≤ p → p < q → q ≤ i → p ≠ j → q ≠ j → R (e p) (e q)
  up : ∀ q, j < q → q ≤ i → R (e j) (e q)

theorem Inner.start {a b i : Nat} {d0 d : Nat → α} (h : Outer R ix a b i d0 d) (hi : i < b) : Inner R ix a i i d d :=
  ⟨Same.refl _ _ _, fun k h1 h2 h3 => h.low k i h1 (by omega) (Nat.le_refl _) hi, fun p q h1 h2 h3 h4 h5 => h.srt p q h1 h2 (by omega), fun q h1 h2 => by omega⟩

theorem swapAt_l (d : Nat → α) (i j : Nat) : swapAt d i j i = d j := by simp [swapAt]
theorem swapAt_r (d : Nat → α) (i j : Nat) : swapAt d i j j = d i := by
  simp only [swapAt]
  split
  · rename_i h; rw [h]
  · simp
theorem swapAt_o (d : Nat → α) (i j k : Nat) (h1 : k ≠ i) (h2 : k ≠ j) : swapAt d i j k = d k := by simp [swapAt, h1, h2]

theorem Inner.step {a i j : Nat} {d e : Nat → α} (h : Inner R ix a i (j + 1) d e) (ha : a ≤ j) (hi : j + 1 ≤ i) (hr : R (e (j + 1)) (e j)) : Inner R ix a i j d (swapAt e (j + 1) j) := by
  refine ⟨h.same.trans (same_swap e a (i + 1) (j + 1) j ⟨by omega, by omega⟩ ⟨by omega, by omega⟩), fun k h1 h2 h3 => ?_, fun p q h1 h2 h3 h4 h5 => ?_, fun q h1 h2 => ?_⟩
  · rw [swapAt_r]
    by_cases hk : k = j + 1
    · subst hk; rw [swapAt_l]; exact h.low j ha (by omega) (by omega)
    · rw [swapAt_o _ _ _ _ hk h3]; exact h.low k h1 h2 hk
  · by_cases hp : p = j + 1
    · subst hp
      rw [swapAt_l, swapAt_o _ _ _ _ (by omega) h5]
      exact h.srt j q ha (by omega) h3 (by omega) (by omega)
    · rw [swapAt_o _ _ _ _ hp h4]
      by_cases hq : q = j + 1
      · subst hq
        rw [swapAt_l]
        exact h.srt p j h1 (by omega) (by omega) hp (by omega)
      · rw [swapAt_o _ _ _ _ hq h5]
        exact h.srt p q h1 h2 h3 hp hq
  · rw [swapAt_r]
    by_cases hq : q = j + 1
    · subst hq; rw [swapAt_l]; exact hr
    · rw [swapAt_o _ _ _ _ hq (by omega)]; exact h.up q (by omega) h2

theorem Inner.done (tr : ∀ x y z, R x y → R y z → R x z) {a b i j : Nat} {d0 d e : Nat → α} (o : Outer R ix a b i d0 d) (hib : i < b) (h : Inner R ix a i j d e) (ha : a ≤ j) (hi : j ≤ i) (hr : a < j → R (e (j - 1)) (e j)) : Outer R ix a b (i + 1) d0 e := by
  refine ⟨o.same.trans (h.same.widen (Nat.le_refl _) (by omega)), fun p q h1 h2 h3 => ?_, fun k l h1 h2 h3 h4 => ?_⟩
  · by_cases hp : p = j
    · subst hp; exact h.up q h2 (by omega)
    · by_cases hq : q = j
      · subst hq
        have hr := hr (by omega)
        rcases Nat.lt_or_ge p (q - 1) with hlt | hge
        · exact tr _ _ _ (h.srt p (q - 1) h1 hlt (by omega) hp (by omega)) hr
        · obtain rfl : p = q - 1 := by omega
          exact hr
      · exact h.srt p q h1 h2 (by omega) hp hq
  · rw [h.same.out l (by omega)]
    rcases Nat.lt_or_ge k (i + 1) with hk | hk
    · obtain ⟨m, m1, m2, em⟩ := h.same.fwd k h1 hk
      rw [em]
      exact o.low m l m1 (by omega) (by omega) h4
    · rw [h.same.out k (by omega)]
      exact o.low k l h1 h2 (by omega) h4

theorem Outer.fin {a b i : Nat} {d0 d : Nat → α} (h : Outer R ix a b i d0 d) (hb : b ≤ i) : Same a b d0 d ∧ Sorted R a b d :=
  ⟨h.same, fun p q h1 h2 h3 => h.srt p q h1 h2 (by omega)⟩

end
end Go.Proofs.YbonekuxeGreat.Plain
