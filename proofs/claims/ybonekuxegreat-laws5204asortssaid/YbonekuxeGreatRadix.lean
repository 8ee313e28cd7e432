/-
  The plain theory of a pass of a radix sort: counts, starts, places. No Go in sight.
-/
import Derived.Test.YbonekuxeGreatPlain
namespace Go.Proofs.YbonekuxeGreat.Plain

/-- how many k below i have the digit b -/
def cntTo (f : Nat → Nat) (b : Nat) : Nat → Nat
  | 0 => 0
  | i + 1 => cntTo f b i + if f i = b then 1 else 0
/-- the sum of the first counts -/
def pre (c : Nat → Nat) : Nat → Nat
  | 0 => 0
  | b + 1 => pre c b + c b

theorem cntTo_mono (f : Nat → Nat) (b : Nat) {i j : Nat} (h : i ≤ j) : cntTo f b i ≤ cntTo f b j := by
  induction j with
  | zero => obtain rfl : i = 0 := by omega
            exact Nat.le_refl _
  | succ j ih =>
    by_cases hj : i = j + 1
    · subst hj; exact Nat.le_refl _
    · have := ih (by omega)
      simp only [cntTo]; omega

theorem cntTo_lt (f : Nat → Nat) (b : Nat) {i j : Nat} (h : i < j) (hf : f i = b) : cntTo f b i < cntTo f b j := by
  have h1 := cntTo_mono f b (show i + 1 ≤ j from h)
  have h2 : cntTo f b (i + 1) = cntTo f b i + 1 := by simp [cntTo, hf]
  omega

theorem cntTo_le (f : Nat → Nat) (b i : Nat) : cntTo f b i ≤ i := by
  induction i with
  | zero => exact Nat.le_refl _
  | succ i ih => simp only [cntTo]; split <;> omega

theorem cntTo_find (f : Nat → Nat) (b : Nat) : ∀ n t, t < cntTo f b n → ∃ i, i < n ∧ f i = b ∧ cntTo f b i = t := by
  intro n
  induction n with
  | zero => intro t h; simp [cntTo] at h
  | succ n ih =>
    intro t h
    by_cases ht : t < cntTo f b n
    · obtain ⟨i, h1, h2, h3⟩ := ih t ht
      exact ⟨i, by omega, h2, h3⟩
    · by_cases hf : f n = b
      · refine ⟨n, by omega, hf, ?_⟩
        simp only [cntTo, if_pos hf] at h
        omega
      · simp only [cntTo, if_neg hf] at h
        omega

/-- all have the digit b -/
theorem cntTo_full (f : Nat → Nat) (b : Nat) : ∀ n, cntTo f b n = n → ∀ i, i < n → f i = b := by
  intro n
  induction n with
  | zero => intro _ i hi; omega
  | succ n ih =>
    intro h i hi
    have hle := cntTo_le f b n
    simp only [cntTo] at h
    by_cases hf : f n = b
    · rw [if_pos hf] at h
      by_cases hin : i = n
      · subst hin; exact hf
      · exact ih (by omega) i (by omega)
    · rw [if_neg hf] at h; omega

theorem pre_mono (c : Nat → Nat) {a b : Nat} (h : a ≤ b) : pre c a ≤ pre c b := by
  induction b with
  | zero => obtain rfl : a = 0 := by omega
            exact Nat.le_refl _
  | succ b ih =>
    by_cases hb : a = b + 1
    · subst hb; exact Nat.le_refl _
    · have := ih (by omega)
      simp only [pre]; omega

theorem pre_succ_le (c : Nat → Nat) {a b : Nat} (h : a < b) : pre c a + c a ≤ pre c b := pre_mono c (show a + 1 ≤ b from h)

theorem pre_zero (m : Nat) : pre (fun _ => 0) m = 0 := by
  induction m with
  | zero => rfl
  | succ m ih => simp [pre, ih]

theorem pre_bump (c : Nat → Nat) (x : Nat) : ∀ m, pre (fun b => c b + if x = b then 1 else 0) m = pre c m + if x < m then 1 else 0 := by
  intro m
  induction m with
  | zero => simp [pre]
  | succ m ih =>
    simp only [pre, ih]
    by_cases h1 : x < m
    · rw [if_pos h1, if_neg (by omega), if_pos (by omega)]; omega
    · by_cases h2 : x = m
      · rw [if_neg h1, if_pos h2, if_pos (by omega)]; omega
      · rw [if_neg h1, if_neg h2, if_neg (by omega)]; omega

/-- all the counts together -/
theorem pre_all (f : Nat → Nat) (m : Nat) : ∀ n, (∀ i, i < n → f i < m) → pre (fun b => cntTo f b n) m = n := by
  intro n
  induction n with
  | zero => intro _; exact pre_zero m
  | succ n ih =>
    intro h
    show pre (fun b => cntTo f b n + if f n = b then 1 else 0) m = n + 1
    rw [pre_bump, ih (fun i hi => h i (by omega)), if_pos (h n (by omega))]

theorem pre_find (c : Nat → Nat) : ∀ m k, k < pre c m → ∃ b, b < m ∧ pre c b ≤ k ∧ k < pre c b + c b := by
  intro m
  induction m with
  | zero => intro k h; simp [pre] at h
  | succ m ih =>
    intro k h
    by_cases hk : k < pre c m
    · obtain ⟨b, h1, h2, h3⟩ := ih k hk
      exact ⟨b, by omega, h2, h3⟩
    · exact ⟨m, by omega, by omega, h⟩

/-- the place that the i-th goes to -/
def pos (f : Nat → Nat) (n i : Nat) : Nat := pre (fun b => cntTo f b n) (f i) + cntTo f (f i) i

theorem pos_lt (f : Nat → Nat) (n m : Nat) (hf : ∀ i, i < n → f i < m) {i : Nat} (hi : i < n) : pos f n i < n := by
  have h1 := pre_succ_le (fun b => cntTo f b n) (hf i hi)
  have h2 := cntTo_lt f (f i) hi rfl
  rw [pre_all f m n hf] at h1
  unfold pos
  omega

theorem pos_order (f : Nat → Nat) (n : Nat) {i j : Nat} (hi : i < n) (h : f i < f j ∨ (f i = f j ∧ i < j)) : pos f n i < pos f n j := by
  unfold pos
  rcases h with h | ⟨h1, h2⟩
  · have h1 := pre_succ_le (fun b => cntTo f b n) h
    have h2 := cntTo_lt f (f i) hi rfl
    omega
  · rw [← h1]
    have := cntTo_lt f (f i) h2 rfl
    omega

theorem pos_inj (f : Nat → Nat) (n : Nat) {i j : Nat} (hi : i < n) (hj : j < n) (h : pos f n i = pos f n j) : i = j := by
  rcases Nat.lt_trichotomy (f i) (f j) with h1 | h1 | h1
  · have := pos_order f n hi (.inl h1); omega
  · rcases Nat.lt_trichotomy i j with h2 | h2 | h2
    · have := pos_order f n hi (.inr ⟨h1, h2⟩); omega
    · exact h2
    · have := pos_order f n hj (.inr ⟨h1.symm, h2⟩); omega
  · have := pos_order f n hj (.inl h1); omega

theorem pos_onto (f : Nat → Nat) (n m : Nat) (hf : ∀ i, i < n → f i < m) {k : Nat} (hk : k < n) : ∃ i, i < n ∧ pos f n i = k := by
  rw [← pre_all f m n hf] at hk
  obtain ⟨b, hb, h1, h2⟩ := pre_find _ m k hk
  obtain ⟨i, i1, i2, i3⟩ := cntTo_find f b n (k - pre (fun b => cntTo f b n) b) (by omega)
  refine ⟨i, i1, ?_⟩
  unfold pos
  rw [i2, i3]
  omega

theorem pos_le (f : Nat → Nat) (n : Nat) {i j : Nat} (hj : j < n) (h : pos f n i < pos f n j) : f i < f j ∨ (f i = f j ∧ i < j) := by
  rcases Nat.lt_trichotomy (f i) (f j) with h1 | h1 | h1
  · exact .inl h1
  · rcases Nat.lt_trichotomy i j with h2 | h2 | h2
    · exact .inr ⟨h1, h2⟩
    · subst h2; omega
    · have := pos_order f n hj (.inr ⟨h1.symm, h2⟩); omega
  · have := pos_order f n hj (.inl h1); omega

section
variable {α : Type}

/-- the row after the pass -/
theorem pass_same {d e : Nat → α} (f : Nat → Nat) (n m : Nat) (hf : ∀ i, i < n → f i < m) (he : ∀ i, i < n → e (pos f n i) = d i) : Same 0 n d (fun k => if k < n then e k else d k) := by
  refine ⟨fun k hk => by rw [if_neg (by omega)], fun k _ hk => ?_, fun l _ hl => ?_, fun hi i j _ i2 _ j2 h => ?_⟩
  · obtain ⟨i, i1, i2⟩ := pos_onto f n m hf hk
    refine ⟨i, Nat.zero_le _, i1, ?_⟩
    rw [if_pos hk, ← i2]; exact he i i1
  · have := pos_lt f n m hf hl
    refine ⟨pos f n l, Nat.zero_le _, this, ?_⟩
    rw [if_pos this]; exact he l hl
  · obtain ⟨a, a1, a2⟩ := pos_onto f n m hf i2
    obtain ⟨b, b1, b2⟩ := pos_onto f n m hf j2
    simp only [if_pos i2, if_pos j2] at h
    rw [← a2, ← b2, he a a1, he b b1] at h
    have := hi a b (Nat.zero_le _) a1 (Nat.zero_le _) b1 h
    rw [← a2, ← b2, this]

theorem pass_sorted {R R' : α → α → Prop} {d e : Nat → α} (g : α → Nat) (n m : Nat) (hf : ∀ i, i < n → g (d i) < m) (he : ∀ i, i < n → e (pos (fun i => g (d i)) n i) = d i) (hs : Sorted R 0 n d)
    (h1 : ∀ i j, i < n → j < n → g (d i) < g (d j) → R' (d i) (d j)) (h2 : ∀ i j, i < n → j < n → g (d i) = g (d j) → R (d i) (d j) → R' (d i) (d j)) : Sorted R' 0 n (fun k => if k < n then e k else d k) := by
  intro k l _ hkl hl
  obtain ⟨a, a1, a2⟩ := pos_onto (fun i => g (d i)) n m hf (show k < n by omega)
  obtain ⟨b, b1, b2⟩ := pos_onto (fun i => g (d i)) n m hf hl
  simp only [if_pos hl, if_pos (show k < n by omega)]
  rw [← a2, ← b2, he a a1, he b b1]
  rcases pos_le (fun i => g (d i)) n b1 (by omega : pos (fun i => g (d i)) n a < pos (fun i => g (d i)) n b) with h | ⟨h, h'⟩
  · exact h1 a b a1 b1 h
  · exact h2 a b a1 b1 h (hs a b (Nat.zero_le _) h' b1)

theorem cntTo_count (g : α → Nat) (b : Nat) (d : Nat → α) : ∀ n, cntTo (fun k => g (d k)) b n = ((List.range n).map d).countP (fun x => g x == b) := by
  intro n
  induction n with
  | zero => rfl
  | succ n ih =>
    rw [List.range_succ, List.map_append, List.countP_append, ← ih]
    simp only [cntTo, List.map_cons, List.map_nil, List.countP_cons, List.countP_nil, Nat.zero_add, beq_iff_eq]

theorem nodup_of_inj (d : Nat → α) (n : Nat) (h : ∀ i j, i < n → j < n → d i = d j → i = j) : ((List.range n).map d).Nodup := by
  unfold List.Nodup
  rw [List.pairwise_map]
  have := List.nodup_range (n := n)
  unfold List.Nodup at this
  refine List.Pairwise.imp_of_mem ?_ this
  intro a b ha hb hne he
  exact hne (h a b (List.mem_range.1 ha) (List.mem_range.1 hb) he)

/-- the counts of a row do not change when it is rearranged -/
theorem cntTo_same {d d' : Nat → α} {n : Nat} (hs : Same 0 n d d') (hi : ∀ i j, i < n → j < n → d i = d j → i = j) (g : α → Nat) (b : Nat) : cntTo (fun k => g (d' k)) b n = cntTo (fun k => g (d k)) b n := by
  rw [cntTo_count, cntTo_count]
  refine List.Perm.countP_eq _ ((List.perm_ext_iff_of_nodup (nodup_of_inj d' n ?_) (nodup_of_inj d n hi)).2 fun x => ?_)
  · exact fun i j i1 j1 e => hs.inj (fun i j _ i2 _ j2 e => hi i j i2 j2 e) i j (Nat.zero_le _) i1 (Nat.zero_le _) j1 e
  · simp only [List.mem_map, List.mem_range]
    constructor
    · rintro ⟨k, hk, rfl⟩
      obtain ⟨l, _, l2, e⟩ := hs.fwd k (Nat.zero_le _) hk
      exact ⟨l, l2, e.symm⟩
    · rintro ⟨l, hl, rfl⟩
      obtain ⟨k, _, k2, e⟩ := hs.bwd l (Nat.zero_le _) hl
      exact ⟨k, k2, e⟩

end
end Go.Proofs.YbonekuxeGreat.Plain
