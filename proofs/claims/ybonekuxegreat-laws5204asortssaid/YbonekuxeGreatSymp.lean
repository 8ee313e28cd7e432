/-
  The plain theory of symMerge's three cases. No Go in sight.
-/
import Derived.Test.YbonekuxeGreatIns
namespace Go.Proofs.YbonekuxeGreat.Plain

section
variable {α : Type} {R : α → α → Prop} {ix : α → Nat}

theorem rot_id_l (d : Nat → α) (m e : Nat) : rot d m m e = d := by
  funext k
  simp only [rot]
  repeat' split
  all_goals first | rfl | omega | (congr 1; omega)
theorem rot_id_r (d : Nat → α) (s m : Nat) : rot d s m m = d := by
  funext k
  simp only [rot]
  repeat' split
  all_goals first | rfl | omega | (congr 1; omega)

theorem rot_up (d : Nat → α) (a k : Nat) (h : a ≤ k) : swapAt (rot d a (a + 1) (k + 1)) k (k + 1) = rot d a (a + 1) (k + 2) := by
  funext j
  simp only [rot, swapAt]
  repeat' split
  all_goals first | rfl | omega | (congr 1; omega)

theorem rot_down (d : Nat → α) (m k : Nat) (h : k < m) : swapAt (rot d (k + 1) m (m + 1)) (k + 1) k = rot d k m (m + 1) := by
  funext j
  simp only [rot, swapAt]
  repeat' split
  all_goals first | rfl | omega | (congr 1; omega)

/-- the first element brought to its place -/
theorem one_sorted (tr : ∀ x y z, R x y → R y z → R x z) {a b i : Nat} {d : Nat → α} (hB : Sorted R (a + 1) b d) (h1 : a + 1 ≤ i) (h2 : i ≤ b) (lo : a + 1 < i → R (d (i - 1)) (d a)) (hi : i < b → R (d a) (d i)) :
    Same a b d (rot d a (a + 1) i) ∧ Sorted R a b (rot d a (a + 1) i) := by
  refine ⟨(rot_same d a (a + 1) i (by omega) (by omega)).widen (Nat.le_refl _) h2, ?_⟩
  obtain ⟨_, s2, s3, s4, cr⟩ := rot_split (R := R) tr (a := a) (m := a + 1) (b := b) (s := a) (e := i) (mid := a + (i - (a + 1))) (d := d) (fun p q h1 h2 h3 => by omega) hB (Nat.le_refl _) (by omega) h1 h2 rfl (fun h => by omega) (fun _ h => lo h)
  intro p q p1 p2 p3
  rcases Nat.lt_or_ge p (a + (i - (a + 1))) with h | h
  · rcases Nat.lt_or_ge q (a + (i - (a + 1))) with h' | h'
    · exact s2 p q p1 p2 h'
    · exact cr p q p1 h h' p3
  · rcases Nat.lt_or_ge p i with h3 | h3
    · rw [rot_second _ _ _ _ _ h h3, rot_right _ _ _ _ _ (by omega) (by omega) (by omega)]
      rw [show a + (p - (a + (i - (a + 1)))) = a from by omega]
      exact hB.ge tr h1 (show i ≤ q by omega) p3 (hi (by omega))
    · exact s4 p q h3 p2 p3

/-- the last element brought to its place -/
theorem last_sorted (tr : ∀ x y z, R x y → R y z → R x z) {a m i : Nat} {d : Nat → α} (hA : Sorted R a m d) (h1 : a ≤ i) (h2 : i ≤ m) (lo : a < i → R (d (i - 1)) (d m)) (hi : i < m → R (d m) (d i)) :
    Same a (m + 1) d (rot d i m (m + 1)) ∧ Sorted R a (m + 1) (rot d i m (m + 1)) := by
  refine ⟨(rot_same d i m (m + 1) (by omega) (by omega)).widen h1 (Nat.le_refl _), ?_⟩
  intro p q p1 p2 p3
  rcases Nat.lt_or_ge p i with h | h
  · rw [rot_left _ _ _ _ _ h]
    rcases Nat.lt_or_ge q i with h' | h'
    · rw [rot_left _ _ _ _ _ h']; exact hA p q p1 p2 (by omega)
    · rcases Nat.lt_or_ge q (i + 1) with h3 | h3
      · rw [rot_first _ _ _ _ _ h' (by omega), show m + (q - i) = m from by omega]
        exact hA.le tr p1 (show p ≤ i - 1 by omega) (by omega) (lo (by omega))
      · rw [rot_second _ _ _ _ _ (by omega) p3]
        exact hA p _ p1 (by omega) (by omega)
  · rcases Nat.lt_or_ge p (i + 1) with h3 | h3
    · rw [rot_first _ _ _ _ _ h (by omega), show m + (p - i) = m from by omega, rot_second _ _ _ _ _ (by omega) p3]
      exact hA.ge tr h1 (show i ≤ i + (q - (i + (m + 1 - m))) by omega) (by omega) (hi (by omega))
    · rw [rot_second _ _ _ _ _ (by omega) (by omega), rot_second _ _ _ _ _ (by omega) p3]
      exact hA _ _ (by omega) (by omega) (by omega)

/-- what is told of the row that is to be merged -/
structure Two (R : α → α → Prop) (ix : α → Nat) (a m b : Nat) (d : Nat → α) : Prop where
  left : Sorted R a m d
  right : Sorted R m b d
  cross : ∀ u v, a ≤ u → u < m → m ≤ v → v < b → ix (d u) < ix (d v)

structure Halves (R : α → α → Prop) (ix : α → Nat) (a s mid e b : Nat) (d : Nat → α) : Prop where
  lo : Two R ix a s mid d
  hi : Two R ix mid e b d
  cut : ∀ i j, a ≤ i → i < mid → mid ≤ j → j < b → R (d i) (d j)

theorem halves_of (tr : ∀ x y z, R x y → R y z → R x z) {a m b s e mid : Nat} {d : Nat → α} (h : Two R ix a m b d) (h1 : a ≤ s) (h2 : s ≤ m) (h3 : m ≤ e) (h4 : e ≤ b) (hmid : mid = s + (e - m))
    (f1 : a < s → e < b → R (d (s - 1)) (d e)) (f2 : s < m → m < e → R (d (e - 1)) (d s)) : Same a b d (rot d s m e) ∧ Halves R ix a s mid e b (rot d s m e) := by
  obtain ⟨s1, s2, s3, s4, cr⟩ := rot_split tr h.left h.right h1 h2 h3 h4 hmid f1 f2
  refine ⟨(rot_same d s m e h2 h3).widen h1 h4, ⟨⟨s1, s2, fun u v u1 u2 v1 v2 => ?_⟩, ⟨s3, s4, fun u v u1 u2 v1 v2 => ?_⟩, cr⟩⟩
  · rw [rot_left _ _ _ _ _ u2, rot_first _ _ _ _ _ v1 (by omega)]
    exact h.cross _ _ u1 (by omega) (by omega) (by omega)
  · rw [rot_second _ _ _ _ _ (by omega) u2, rot_right _ _ _ _ _ h2 h3 v1]
    exact h.cross _ _ (by omega) (by omega) (by omega) v2

/-- a part that is not split is sorted -/
theorem Two.whole {a s m : Nat} {d : Nat → α} (h : Two R ix a s m d) (hs : s ≤ a ∨ m ≤ s) : Sorted R a m d := by
  rcases hs with hs | hs
  · exact fun i j i1 i2 i3 => h.right i j (by omega) i2 i3
  · exact fun i j i1 i2 i3 => h.left i j i1 i2 (by omega)

theorem Two.congr {a s m : Nat} {d e : Nat → α} (h : Two R ix a s m d) (hk : ∀ k, a ≤ k → k < m → e k = d k) (h1 : a ≤ s) (h2 : s ≤ m) : Two R ix a s m e :=
  ⟨h.left.congr fun k k1 k2 => hk k k1 (by omega), h.right.congr fun k k1 k2 => hk k (by omega) k2, fun u v u1 u2 v1 v2 => by rw [hk u u1 (by omega), hk v (by omega) v2]; exact h.cross u v u1 u2 v1 v2⟩

end
end Go.Proofs.YbonekuxeGreat.Plain
