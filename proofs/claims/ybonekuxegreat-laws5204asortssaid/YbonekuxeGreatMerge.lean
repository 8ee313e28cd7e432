/-
  The plain theory of slices' symMerge, insertion by binary search, insertion sort. No Go in sight.
-/
import Derived.Test.YbonekuxeGreatPlain
namespace Go.Proofs.YbonekuxeGreat.Plain

section
variable {α : Type} {R : α → α → Prop}

theorem rot_left (d : Nat → α) (s m e k : Nat) (h : k < s) : rot d s m e k = d k := by
  simp only [rot]; rw [if_neg (by omega), if_neg (by omega)]
theorem rot_first (d : Nat → α) (s m e k : Nat) (h1 : s ≤ k) (h2 : k < s + (e - m)) : rot d s m e k = d (m + (k - s)) := by
  simp only [rot]; rw [if_pos ⟨h1, h2⟩]
theorem rot_second (d : Nat → α) (s m e k : Nat) (h1 : s + (e - m) ≤ k) (h2 : k < e) : rot d s m e k = d (s + (k - (s + (e - m)))) := by
  simp only [rot]; rw [if_neg (by omega), if_pos ⟨h1, h2⟩]
theorem rot_right (d : Nat → α) (s m e k : Nat) (hsm : s ≤ m) (hme : m ≤ e) (h : e ≤ k) : rot d s m e k = d k := by
  simp only [rot]; rw [if_neg (by omega), if_neg (by omega)]

/-- A sorted row, at places that need not differ. -/
theorem Sorted.le {a b : Nat} {d : Nat → α} (h : Sorted R a b d) (tr : ∀ x y z, R x y → R y z → R x z) {i j : Nat} {x : α} (h1 : a ≤ i) (h2 : i ≤ j) (h3 : j < b) (hx : R (d j) x) : R (d i) x := by
  rcases Nat.lt_or_ge i j with hlt | hge
  · exact tr _ _ _ (h i j h1 hlt h3) hx
  · obtain rfl : i = j := by omega
    exact hx
theorem Sorted.ge {a b : Nat} {d : Nat → α} (h : Sorted R a b d) (tr : ∀ x y z, R x y → R y z → R x z) {i j : Nat} {x : α} (h1 : a ≤ i) (h2 : i ≤ j) (h3 : j < b) (hx : R x (d i)) : R x (d j) := by
  rcases Nat.lt_or_ge i j with hlt | hge
  · exact tr _ _ _ hx (h i j h1 hlt h3)
  · obtain rfl : i = j := by omega
    exact hx

/-- What the rotation leaves: four sorted stretches, and everything ahead of mid is less than everything from mid on. -/
theorem rot_split (tr : ∀ x y z, R x y → R y z → R x z) {a m b s e mid : Nat} {d : Nat → α} (hA : Sorted R a m d) (hB : Sorted R m b d) (h1 : a ≤ s) (h2 : s ≤ m) (h3 : m ≤ e) (h4 : e ≤ b) (hmid : mid = s + (e - m))
    (f1 : a < s → e < b → R (d (s - 1)) (d e)) (f2 : s < m → m < e → R (d (e - 1)) (d s)) :
    Sorted R a s (rot d s m e) ∧ Sorted R s mid (rot d s m e) ∧ Sorted R mid e (rot d s m e) ∧ Sorted R e b (rot d s m e) ∧ (∀ i j, a ≤ i → i < mid → mid ≤ j → j < b → R (rot d s m e i) (rot d s m e j)) := by
  subst hmid
  refine ⟨?_, ?_, ?_, ?_, ?_⟩
  · intro i j i1 i2 i3
    rw [rot_left _ _ _ _ _ (by omega), rot_left _ _ _ _ _ (by omega)]
    exact hA i j i1 i2 (by omega)
  · intro i j i1 i2 i3
    rw [rot_first _ _ _ _ _ (by omega) (by omega), rot_first _ _ _ _ _ (by omega) (by omega)]
    exact hB _ _ (by omega) (by omega) (by omega)
  · intro i j i1 i2 i3
    rw [rot_second _ _ _ _ _ (by omega) (by omega), rot_second _ _ _ _ _ (by omega) (by omega)]
    exact hA _ _ (by omega) (by omega) (by omega)
  · intro i j i1 i2 i3
    rw [rot_right _ _ _ _ _ h2 h3 (by omega), rot_right _ _ _ _ _ h2 h3 (by omega)]
    exact hB i j (by omega) i2 i3
  · intro i j i1 i2 j1 j2
    by_cases hi : i < s
    · rw [rot_left _ _ _ _ _ hi]
      by_cases hj : j < e
      · rw [rot_second _ _ _ _ _ j1 hj]
        exact hA _ _ i1 (by omega) (by omega)
      · rw [rot_right _ _ _ _ _ h2 h3 (by omega)]
        have f := f1 (by omega) (by omega)
        have g := hA.le tr i1 (show i ≤ s - 1 by omega) (by omega) f
        exact hB.ge tr (by omega) (show e ≤ j by omega) j2 g
    · rw [rot_first _ _ _ _ _ (by omega) i2]
      by_cases hj : j < e
      · rw [rot_second _ _ _ _ _ j1 hj]
        have f := f2 (by omega) (by omega)
        have g := hB.le tr (show m ≤ m + (i - s) by omega) (show m + (i - s) ≤ e - 1 by omega) (by omega) f
        exact hA.ge tr h1 (show s ≤ s + (j - (s + (e - m))) by omega) (by omega) g
      · rw [rot_right _ _ _ _ _ h2 h3 (by omega)]
        exact hB _ _ (by omega) (by omega) j2

/-- Both halves sorted apart: the whole is sorted. -/
theorem halves_join {a mid b : Nat} {d1 d2 d3 : Nat → α} (hx : ∀ i j, a ≤ i → i < mid → mid ≤ j → j < b → R (d1 i) (d1 j)) (ham : a ≤ mid) (hmb : mid ≤ b) (s1 : Same a mid d1 d2) (o1 : Sorted R a mid d2) (s2 : Same mid b d2 d3) (o2 : Sorted R mid b d3) :
    Same a b d1 d3 ∧ Sorted R a b d3 := by
  refine ⟨(s1.widen (Nat.le_refl _) hmb).trans (s2.widen ham (Nat.le_refl _)), fun i j i1 i2 i3 => ?_⟩
  rcases Nat.lt_or_ge i mid with h | h
  · rw [s2.out i (by omega)]
    rcases Nat.lt_or_ge j mid with h' | h'
    · rw [s2.out j (by omega)]
      exact o1 i j i1 i2 h'
    · obtain ⟨l, l1, l2, e⟩ := s1.fwd i i1 h
      obtain ⟨k, k1, k2, e2⟩ := s2.fwd j h' i3
      rw [e, e2, s1.out k (by omega)]
      exact hx l k l1 l2 k1 k2
  · exact o2 i j h i2 i3

end
end Go.Proofs.YbonekuxeGreat.Plain
