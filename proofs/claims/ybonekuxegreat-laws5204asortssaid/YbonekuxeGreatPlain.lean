/-
  The plain theory of rows that are rearranged: the same elements, exchanges, rotations; strictly sorted rows with the same elements are one. No Go in sight.
-/
namespace Go.Proofs.YbonekuxeGreat.Plain

/-- The elements on [a, b) are the same (in another order), all else is as it was. -/
structure Same {α : Type} (a b : Nat) (d d' : Nat → α) : Prop where
  out : ∀ k, k < a ∨ b ≤ k → d' k = d k
  fwd : ∀ k, a ≤ k → k < b → ∃ l, a ≤ l ∧ l < b ∧ d' k = d l
  bwd : ∀ l, a ≤ l → l < b → ∃ k, a ≤ k ∧ k < b ∧ d' k = d l
  inj : (∀ i j, a ≤ i → i < b → a ≤ j → j < b → d i = d j → i = j) → ∀ i j, a ≤ i → i < b → a ≤ j → j < b → d' i = d' j → i = j

theorem Same.refl {α : Type} (a b : Nat) (d : Nat → α) : Same a b d d :=
  ⟨fun _ _ => rfl, fun k h1 h2 => ⟨k, h1, h2, rfl⟩, fun k h1 h2 => ⟨k, h1, h2, rfl⟩, fun h => h⟩

theorem Same.trans {α : Type} {a b : Nat} {d d' d'' : Nat → α} (h : Same a b d d') (k : Same a b d' d'') : Same a b d d'' := by
  refine ⟨fun i hi => (k.out i hi).trans (h.out i hi), fun i h1 h2 => ?_, fun l h1 h2 => ?_, fun hi => k.inj (h.inj hi)⟩
  · obtain ⟨l, l1, l2, e⟩ := k.fwd i h1 h2
    obtain ⟨m, m1, m2, e2⟩ := h.fwd l l1 l2
    exact ⟨m, m1, m2, e.trans e2⟩
  · obtain ⟨i, i1, i2, e⟩ := h.bwd l h1 h2
    obtain ⟨j, j1, j2, e2⟩ := k.bwd i i1 i2
    exact ⟨j, j1, j2, e2.trans e⟩

/-- A rearrangement of a part is one of the whole. -/
theorem Same.widen {α : Type} {a b a' b' : Nat} {d d' : Nat → α} (h : Same a b d d') (ha : a' ≤ a) (hb : b ≤ b') : Same a' b' d d' := by
  refine ⟨fun k hk => h.out k (by omega), fun k h1 h2 => ?_, fun l h1 h2 => ?_, fun hi i j i1 i2 j1 j2 e => ?_⟩
  · by_cases hk : a ≤ k ∧ k < b
    · obtain ⟨l, l1, l2, e⟩ := h.fwd k hk.1 hk.2
      exact ⟨l, by omega, by omega, e⟩
    · exact ⟨k, h1, h2, h.out k (by omega)⟩
  · by_cases hk : a ≤ l ∧ l < b
    · obtain ⟨k, k1, k2, e⟩ := h.bwd l hk.1 hk.2
      exact ⟨k, by omega, by omega, e⟩
    · exact ⟨l, h1, h2, h.out l (by omega)⟩
  · have hi' : ∀ i j, a ≤ i → i < b → a ≤ j → j < b → d i = d j → i = j := fun i j i1 i2 j1 j2 e => hi i j (by omega) (by omega) (by omega) (by omega) e
    by_cases hI : a ≤ i ∧ i < b
    · by_cases hJ : a ≤ j ∧ j < b
      · exact h.inj hi' i j hI.1 hI.2 hJ.1 hJ.2 e
      · obtain ⟨l, l1, l2, e1⟩ := h.fwd i hI.1 hI.2
        rw [e1, h.out j (by omega)] at e
        have := hi l j (by omega) (by omega) j1 j2 e
        omega
    · by_cases hJ : a ≤ j ∧ j < b
      · obtain ⟨l, l1, l2, e1⟩ := h.fwd j hJ.1 hJ.2
        rw [e1, h.out i (by omega)] at e
        have := hi i l i1 i2 (by omega) (by omega) e
        omega
      · rw [h.out i (by omega), h.out j (by omega)] at e
        exact hi i j i1 i2 j1 j2 e

/-- A rearrangement by places: f sends places to places, g back. -/
theorem Same.of_maps {α : Type} {a b : Nat} {d d' : Nat → α} (f g : Nat → Nat) (hd : ∀ k, d' k = d (f k)) (hf : ∀ k, a ≤ k → k < b → a ≤ f k ∧ f k < b) (hg : ∀ k, a ≤ k → k < b → a ≤ g k ∧ g k < b)
    (hfg : ∀ k, a ≤ k → k < b → f (g k) = k) (hgf : ∀ k, a ≤ k → k < b → g (f k) = k) (hout : ∀ k, k < a ∨ b ≤ k → f k = k) : Same a b d d' := by
  refine ⟨fun k hk => by rw [hd, hout k hk], fun k h1 h2 => ⟨f k, (hf k h1 h2).1, (hf k h1 h2).2, hd k⟩, fun l h1 h2 => ⟨g l, (hg l h1 h2).1, (hg l h1 h2).2, by rw [hd, hfg l h1 h2]⟩, fun hi i j i1 i2 j1 j2 e => ?_⟩
  rw [hd, hd] at e
  have := hi (f i) (f j) (hf i i1 i2).1 (hf i i1 i2).2 (hf j j1 j2).1 (hf j j1 j2).2 e
  rw [← hgf i i1 i2, this, hgf j j1 j2]

/-! ### An exchange -/
def swapAt {α : Type} (d : Nat → α) (i j : Nat) : Nat → α := fun k => if k = i then d j else if k = j then d i else d k

theorem same_swap {α : Type} (d : Nat → α) (a b i j : Nat) (hi : a ≤ i ∧ i < b) (hj : a ≤ j ∧ j < b) : Same a b d (swapAt d i j) := by
  refine Same.of_maps (fun k => if k = i then j else if k = j then i else k) (fun k => if k = i then j else if k = j then i else k) ?_ ?_ ?_ ?_ ?_ ?_
  · intro k
    simp only [swapAt]
    split
    · rfl
    · split <;> rfl
  all_goals
    intro k
    try dsimp only
    repeat' split
    all_goals omega

/-! ### Strictly sorted rows -/
def Sorted {α : Type} (R : α → α → Prop) (a b : Nat) (d : Nat → α) : Prop := ∀ i j, a ≤ i → i < j → j < b → R (d i) (d j)

theorem Sorted.congr {α : Type} {R : α → α → Prop} {a b : Nat} {d d' : Nat → α} (h : Sorted R a b d) (e : ∀ k, a ≤ k → k < b → d' k = d k) : Sorted R a b d' := by
  intro i j h1 h2 h3
  rw [e i h1 (by omega), e j (by omega) h3]
  exact h i j h1 h2 h3

/-- Strictly sorted and the same elements: the same row. -/
theorem sorted_unique {α : Type} {R : α → α → Prop} (irr : ∀ x, ¬ R x x) (tr : ∀ x y z, R x y → R y z → R x z) {a b : Nat} {d e : Nat → α} (hd : Sorted R a b d) (he : Sorted R a b e)
    (hde : ∀ k, a ≤ k → k < b → ∃ l, a ≤ l ∧ l < b ∧ d k = e l) (hed : ∀ k, a ≤ k → k < b → ∃ l, a ≤ l ∧ l < b ∧ e k = d l) : ∀ n k, k = a + n → k < b → d k = e k := by
  intro n
  induction n using Nat.strongRecOn with
  | _ n ih =>
    intro k hk hb
    have ih' : ∀ j, a ≤ j → j < k → d j = e j := fun j h1 h2 => ih (j - a) (by omega) j (by omega) (by omega)
    obtain ⟨l, l1, l2, el⟩ := hde k (by omega) hb
    obtain ⟨m, m1, m2, em⟩ := hed k (by omega) hb
    have hlk : k ≤ l := by
      rcases Nat.lt_or_ge l k with h | h
      · rw [← ih' l l1 h] at el
        exact absurd (el ▸ hd l k l1 h hb) (irr _)
      · exact h
    have hmk : k ≤ m := by
      rcases Nat.lt_or_ge m k with h | h
      · rw [ih' m m1 h] at em
        exact absurd (em ▸ he m k m1 h hb) (irr _)
      · exact h
    rcases Nat.lt_or_ge k l with h | h
    · have r1 : R (e k) (e l) := he k l (by omega) h l2
      rw [← el, em] at r1
      rcases Nat.lt_or_ge k m with h2 | h2
      · exact absurd (tr _ _ _ r1 (hd k m (by omega) h2 m2)) (irr _)
      · obtain rfl : m = k := by omega
        exact absurd r1 (irr _)
    · obtain rfl : l = k := by omega
      exact el

/-! ### Ranges exchanged; a rotation -/
/-- 'swapRange(data, a, b, n)': the n places from a on against the n places from b on -/
def swapR {α : Type} (d : Nat → α) (a b n : Nat) : Nat → α := fun k => if a ≤ k ∧ k < a + n then d (b + (k - a)) else if b ≤ k ∧ k < b + n then d (a + (k - b)) else d k

theorem swapR_zero {α : Type} (d : Nat → α) (a b : Nat) : swapR d a b 0 = d := by
  funext k
  simp only [swapR]
  rw [if_neg (by omega), if_neg (by omega)]

theorem swapR_succ {α : Type} (d : Nat → α) (a b n : Nat) (h : a + n < b) : swapAt (swapR d a b n) (a + n) (b + n) = swapR d a b (n + 1) := by
  funext k
  simp only [swapAt, swapR]
  by_cases h1 : k = a + n
  · subst h1
    rw [if_pos rfl, if_neg (by omega), if_neg (by omega), if_pos (by omega)]
    congr 1; omega
  · rw [if_neg h1]
    by_cases h2 : k = b + n
    · subst h2
      rw [if_pos rfl, if_neg (by omega), if_neg (by omega), if_neg (by omega), if_pos (by omega)]
      congr 1; omega
    · rw [if_neg h2]
      by_cases h3 : a ≤ k ∧ k < a + n
      · rw [if_pos h3, if_pos (by omega)]
      · rw [if_neg h3, if_neg (show ¬ (a ≤ k ∧ k < a + (n + 1)) by omega)]
        by_cases h4 : b ≤ k ∧ k < b + n
        · rw [if_pos h4, if_pos (by omega)]
        · rw [if_neg h4, if_neg (by omega)]

/-- the two neighbouring ranges [a, m) and [m, b) change places -/
def rot {α : Type} (d : Nat → α) (a m b : Nat) : Nat → α := fun k => if a ≤ k ∧ k < a + (b - m) then d (m + (k - a)) else if a + (b - m) ≤ k ∧ k < b then d (a + (k - (a + (b - m)))) else d k

theorem rot_same {α : Type} (d : Nat → α) (a m b : Nat) (h1 : a ≤ m) (h2 : m ≤ b) : Same a b d (rot d a m b) := by
  refine Same.of_maps (fun k => if a ≤ k ∧ k < a + (b - m) then m + (k - a) else if a + (b - m) ≤ k ∧ k < b then a + (k - (a + (b - m))) else k)
    (fun k => if a ≤ k ∧ k < m then a + (b - m) + (k - a) else if m ≤ k ∧ k < b then a + (k - m) else k) ?_ ?_ ?_ ?_ ?_ ?_
  · intro k
    simp only [rot]
    split
    · rfl
    · split <;> rfl
  all_goals
    intro k
    try dsimp only
    repeat' split
    all_goals omega

theorem rot_more {α : Type} (d : Nat → α) (m i j : Nat) (hi : i ≤ m) (h : j < i) : rot (swapR d (m - i) m j) (m - (i - j)) m (m + j) = rot d (m - i) m (m + j) := by
  funext k
  simp only [rot, swapR]
  repeat' split
  all_goals first | rfl | omega | (congr 1; omega)

theorem rot_less {α : Type} (d : Nat → α) (m i j : Nat) (hi : i ≤ m) (h : i < j) : rot (swapR d (m - i) (m + j - i) i) (m - i) m (m + (j - i)) = rot d (m - i) m (m + j) := by
  funext k
  simp only [rot, swapR]
  repeat' split
  all_goals first | rfl | omega | (congr 1; omega)

theorem rot_even {α : Type} (d : Nat → α) (m i : Nat) (hi : i ≤ m) : swapR d (m - i) m i = rot d (m - i) m (m + i) := by
  funext k
  simp only [rot, swapR]
  repeat' split
  all_goals first | rfl | omega | (congr 1; omega)

end Go.Proofs.YbonekuxeGreat.Plain
