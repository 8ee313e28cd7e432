/-
  Aids for the walks of LawS5208CModel and LawS5208CChain: an append onto a slice of the call's own, told with where the new value lies and that the old value still reads as it did.
-/
import Derived.WalkKit
import Derived.WalkSpells
import Derived.WalkLawsBesides
import Derived.Deep.OwnRows
namespace Go.Proofs.Ybulkdcvi.Aid
open Go.RowKit Go.Deep

/-- From w to w' the slice of the call's own v (n elements, the cells xs) has become v' (m elements more, the cells ys): the old value still reads as it did; nothing has been written but new blocks and v's own block; v' lies in v's block or in a new one. -/
structure Ext (B : Nat) (e : TypeId) (w w' : World) (v v' : Value) (n : Nat) (xs : List Value) (m : Nat) (ys : List Value) : Prop where
  own : w'.ownsRow B e 1 v' (n + m) (xs ++ ys)
  old : w'.ownsRow B e 1 v n xs
  grown : w.grownBy w' v.ownBlock
  place : v'.ownBlock = v.ownBlock ∨ ∃ k, v'.ownBlock = some k ∧ w.heap.size ≤ k

theorem ownsRow_of_block {w w' : World} {B : Nat} {e : TypeId} {s : Nat} {v : Value} {n : Nat} {xs : List Value} (h : w.ownsRow B e s v n xs) (hb : ∀ k, v.ownBlock = some k → w'.heap[k]? = w.heap[k]?) : w'.ownsRow B e s v n xs := by
  refine ⟨h.1, ?_⟩
  rcases h.2 with h2 | ⟨g, cap, cur, rfl, hg, hh, r⟩
  · exact Or.inl h2
  · exact Or.inr ⟨g, cap, cur, rfl, hg, (hb g rfl).trans hh, r⟩

theorem ownsRow_below {w w' : World} {base : Nat} {e : TypeId} {size : Nat} {v : Value} {n : Nat} {xs : List Value} (h : w.ownsRow base e size v n xs) (hb : Below w.heap.size w w') : w'.ownsRow base e size v n xs :=
  ownsRow_of_block h fun k hk => hb.block k (h.lt k hk).2

theorem Ext.refl {B : Nat} {e : TypeId} {w : World} {v : Value} {n : Nat} {xs : List Value} (h : w.ownsRow B e 1 v n xs) : Ext B e w w v v n xs 0 [] :=
  ⟨by simpa using h, h, World.grownBy.refl _ _, .inl rfl⟩

theorem Ext.trans {B : Nat} {e : TypeId} {w w1 w2 : World} {v v1 v2 : Value} {n : Nat} {xs : List Value} {m : Nat} {ys : List Value} {l : Nat} {zs : List Value} (h0 : w.ownsRow B e 1 v n xs)
    (h : Ext B e w w1 v v1 n xs m ys) (k : Ext B e w1 w2 v1 v2 (n + m) (xs ++ ys) l zs) : Ext B e w w2 v v2 n xs (m + l) (ys ++ zs) := by
  have hs := h.grown.size
  refine ⟨by simpa [Nat.add_assoc] using k.own, ?_, ?_, ?_⟩
  · -- the old value
    by_cases hv : v1.ownBlock = v.ownBlock
    · -- it lies in the same block: a beginning of what is owned there
      have k1 := k.old
      refine ⟨h.old.1, ?_⟩
      rcases h.old.2 with h2 | ⟨g, cap, cur, rfl, hg, hh, hnc, hcm, hcs, ht⟩
      · exact Or.inl h2
      · right
        rcases k1.2 with ⟨rfl, _⟩ | ⟨g', cap', cur', rfl, hg', hh', hnc', hcm', hcs', ht'⟩
        · simp [Value.ownBlock] at hv
        · simp only [Value.ownBlock, Option.some.injEq] at hv
          subst hv
          have hcap : cap' = cap := by
            rcases h.own.2 with ⟨h3, _⟩ | ⟨g3, cap3, cur3, h3, _, hh3, _, _, hcs3, _⟩
            · simp at h3
            · simp only [Value.slice.injEq, Option.some.injEq, Addr.mk.injEq, and_true, true_and] at h3
              obtain ⟨rfl, rfl⟩ := h3
              rw [hh] at hh3
              simp at hh3
              subst hh3
              omega
          subst hcap
          refine ⟨g', cap', cur', rfl, hg, hh', hnc, hcm, hcs', ?_⟩
          have hx : xs.length = n := by simpa using h.old.1
          have : cur'.toList.take (n * 1) = (cur'.toList.take ((n + m) * 1)).take n := by rw [List.take_take]; congr 1; omega
          rw [this, ht']
          rw [← hx]; exact List.take_left
    · refine ownsRow_of_block h.old fun q hq => ?_
      have hlt := (h.old.lt q hq).2
      exact k.grown.block q hlt (fun e => hv (by rw [← e, hq]))
  · refine ⟨k.grown.os.trans h.grown.os, k.grown.tape.trans h.grown.tape, k.grown.output.trans h.grown.output, Nat.le_trans hs k.grown.size, fun q hq hne => ?_⟩
    rw [k.grown.block q (Nat.lt_of_lt_of_le hq hs) ?_, h.grown.block q hq hne]
    intro e
    rcases h.place with hp | ⟨p, hp, hle⟩
    · exact hne (by rw [e, hp])
    · rw [hp] at e; simp at e; omega
  · rcases k.place with hp | ⟨p, hp, hle⟩
    · rw [hp]; exact h.place
    · exact .inr ⟨p, hp, Nat.le_trans hs hle⟩

/-- A new block laid first (the one-element slice of an append) does not matter. -/
theorem Ext.of_alloc {B : Nat} {e : TypeId} {w w' : World} {v v' : Value} {n : Nat} {xs : List Value} {m : Nat} {ys : List Value} {o : Obj} (h : Ext B e (w.alloc o) w' v v' n xs m ys) : Ext B e w w' v v' n xs m ys := by
  have hs := h.grown.size
  simp at hs
  refine ⟨h.own, h.old, ⟨h.grown.os, h.grown.tape, h.grown.output, by omega, fun k hk hne => ?_⟩, ?_⟩
  · rw [h.grown.block k (by simp; omega) hne, Below.heap_alloc _ _ _ hk]
  · rcases h.place with hp | ⟨p, hp, hle⟩
    · exact .inl hp
    · exact .inr ⟨p, hp, by simp at hle; omega⟩

theorem Ext.of_drew {B : Nat} {e : TypeId} {w w' : World} {v v' : Value} {n : Nat} {xs : List Value} {m : Nat} {ys : List Value} (h : Ext B e w.drew w' v v' n xs m ys) : Ext B e w w' v v' n xs m ys :=
  ⟨h.own, h.old, ⟨h.grown.os, h.grown.tape, h.grown.output, h.grown.size, h.grown.block⟩, h.place⟩

/-- Grown in place or moved first, then grown. -/
theorem Ext.then0 {B : Nat} {e : TypeId} {w w1 w2 : World} {v v1 v2 : Value} {n : Nat} {xs : List Value} {l : Nat} {zs : List Value} (h0 : w.ownsRow B e 1 v n xs)
    (h : Ext B e w w1 v v1 n xs 0 []) (k : Ext B e w1 w2 v1 v2 n xs l zs) : Ext B e w w2 v v2 n xs l zs := by
  have := Ext.trans h0 h (l := l) (zs := zs) (w2 := w2) (v2 := v2) (by simpa using k)
  simpa using this

/-- what 'make([]T, n, cap)' lays is owned, n elements of it -/
theorem made_len {base : Nat} {e : TypeId} (w : World) (cur : Array Value) (n cap : Nat) (hb : base ≤ w.heap.size) (hn : n ≤ cap) (hm : cap ≤ maxLen) (hs : cur.size = cap) :
    (w.alloc (.cells cur e)).ownsRow base e 1 (.slice (some ⟨w.heap.size, 0, none⟩) n cap) n (cur.toList.take n) :=
  ⟨by simp [hs]; omega, .inr ⟨w.heap.size, cap, cur, rfl, hb, heap_alloc_new w _, hn, hm, by omega, by simp⟩⟩

section
variable {P : Program}

/-- 'append(v, src...)', v nil or the call's own, one cell an element. -/
theorem run_append_ext (w : World) (B : Nat) (t ty e : TypeId) (i : TypeInfo) (z : Value) (bytes : Nat) (ht : P.underlying t = some (.slice e)) (hi : P.info? e = some i) (hz : i.zero = some z)
    (hsize : i.size = 1) (hby : i.bytes = bytes) (hzs : z.cells.size = 1)
    (v : Value) (n : Nat) (xs : List Value) (hown : w.ownsRow B e 1 v n xs)
    (a : Addr) (m c : Nat) (news : List Value) (hl : news.length = m) (hnews : ∀ j u, news[j]? = some u → w.cell? (a.add j) = some u) (h1 : ∀ u ∈ news, u.oneCell' = true)
    (h63 : n + m ≤ maxLen) (hbytes : (n + m) * bytes ≤ 140737488355328) (hbase : B ≤ w.heap.size) :
    ∃ v' w', (Builtin.append_ #[t, t] ty #[v, .slice (some a) m c]).run P w = .ok v' w' ∧ Ext B e w w' v v' n xs m news := by
  have hl1 : news.length = m * 1 := by omega
  obtain ⟨v', w', hr, hown', hgr, hnil⟩ := run_append_own (P := P) w B t ty e i z 1 bytes ht hi hz hsize hby hzs (by omega) v n xs hown a m c news hl1 hnews h1 h63 hbytes hbase
  refine ⟨v', w', hr, hown', ?_, hgr, ?_⟩
  all_goals rcases hown.2 with ⟨rfl, rfl⟩ | ⟨g, cap, cur, rfl, hbg, hg, hnc, hcm, hcs, htake⟩
  · obtain rfl : xs = [] := List.eq_nil_of_length_eq_zero (by simpa using hown.1)
    exact World.ownsRow_nil _ _ _ _
  · by_cases hroom : n + m ≤ cap
    · have hq := run_append_room (P := P) w t ty e i ht hi g n cap cur hg a m c news (by rw [hsize]; exact hl1) hnews h1 hroom (by rw [hsize]; omega)
      rw [hr] at hq
      simp only [Result.ok.injEq] at hq
      obtain ⟨_, rfl⟩ := hq
      refine ⟨hown.1, .inr ⟨g, cap, _, rfl, hbg, setRow_heap w g cur _ e _ hg, hnc, hcm, ?_, ?_⟩⟩
      · simp only [List.size_toArray, List.length_append, List.length_take, List.length_drop, Array.length_toList, hsize]
        omega
      · rw [hsize]
        simp only [List.append_assoc]
        rw [htake]
        have hx : xs.length = n * 1 := hown.1
        rw [← hx]
        exact List.take_left
    · have hq := run_append_grow (P := P) w t ty e i z ht hi hz ⟨g, 0, none⟩ n cap xs (by rw [hsize]; exact hown.1) (hown.cells (g := g) rfl) a m c news (by rw [hsize]; exact hl1) hnews (by omega)
        (by have := h63; simp only [maxLen] at this; omega) (growslice_fits (by omega) (by rw [hby]; exact hbytes))
      rw [hr] at hq
      simp only [Result.ok.injEq] at hq
      obtain ⟨_, rfl⟩ := hq
      exact (World.ownsRow.drew hown).alloc _
  · by_cases hm : m = 0
    · left
      rw [hnil.2 ⟨rfl, hm⟩]
    · right
      have hq := run_append_nil (P := P) w t ty e i z ht hi hz a m c news (by rw [hsize]; exact hl1) hnews (by omega) (by have := h63; simp only [maxLen] at this; omega) (by rw [hby]; have hb := hbytes; simp only [Nat.zero_add] at hb; omega)
      rw [hr] at hq
      simp only [Result.ok.injEq] at hq
      obtain ⟨rfl, _⟩ := hq
      exact ⟨_, rfl, Nat.le_refl _⟩
  · by_cases hroom : n + m ≤ cap
    · left
      have hq := run_append_room (P := P) w t ty e i ht hi g n cap cur hg a m c news (by rw [hsize]; exact hl1) hnews h1 hroom (by rw [hsize]; omega)
      rw [hr] at hq
      simp only [Result.ok.injEq] at hq
      obtain ⟨rfl, _⟩ := hq
      rfl
    · right
      have hq := run_append_grow (P := P) w t ty e i z ht hi hz ⟨g, 0, none⟩ n cap xs (by rw [hsize]; exact hown.1) (hown.cells (g := g) rfl) a m c news (by rw [hsize]; exact hl1) hnews (by omega)
        (by have := h63; simp only [maxLen] at this; omega) (growslice_fits (by omega) (by rw [hby]; exact hbytes))
      rw [hr] at hq
      simp only [Result.ok.injEq] at hq
      obtain ⟨rfl, _⟩ := hq
      exact ⟨_, rfl, Nat.le_refl _⟩

theorem wpList_append_ext {w : World} {ops : Array Oper} {rest : List Oper} {o : Oper} {a : Act} {Q : Exit → Act → World → Prop} (hgd : o.guard = none) (s x : Operand) (t : TypeId)
    (ho : o.op = .call { callee := .builtin .append, args := #[s, x], argTypes := #[t, t] })
    (B : Nat) (e : TypeId) (i : TypeInfo) (z : Value) (bytes : Nat) (ht : P.underlying t = some (.slice e)) (hi : P.info? e = some i) (hz : i.zero = some z)
    (hsize : i.size = 1) (hby : i.bytes = bytes) (hzs : z.cells.size = 1)
    (v : Value) (n : Nat) (xs : List Value) (hs : a.eval s = v) (hown : w.ownsRow B e 1 v n xs)
    (ad : Addr) (m c : Nat) (news : List Value) (hx : a.eval x = .slice (some ad) m c) (hl : news.length = m) (hnews : ∀ j u, news[j]? = some u → w.cell? (ad.add j) = some u) (h1 : ∀ u ∈ news, u.oneCell' = true)
    (h63 : n + m ≤ maxLen) (hbytes : (n + m) * bytes ≤ 140737488355328) (hbase : B ≤ w.heap.size)
    (h : ∀ v' w', Ext B e w w' v v' n xs m news → wpList P ops Q rest (a.put o.dst v') w') : wpList P ops Q (o :: rest) a w := by
  refine wpList_plain hgd fun _ hK => ?_
  obtain ⟨v', w', hr, h2⟩ := run_append_ext (P := P) w B t o.type e i z bytes ht hi hz hsize hby hzs v n xs hown ad m c news hl hnews h1 h63 hbytes hbase
  unfold Oper.wp execOp
  simp only [ho, resolve, invoke, builtin, Sem.run_bind, Sem.run_pure, Result.andThen_ok, List.map_toArray, List.map_cons, List.map_nil, hs, hx, hr]
  exact hK _ _ (h v' w' h2)

/-- 'copy(d, src)' into a row that was made for it: n elements of one cell each, src of n elements too. -/
theorem wpList_copy_one {w : World} {ops : Array Oper} {rest : List Oper} {o : Oper} {a : Act} {Q : Exit → Act → World → Prop} (hgd : o.guard = none) (d x : Operand) (dT sT : TypeId)
    (ho : o.op = .call { callee := .builtin .copy, args := #[d, x], argTypes := #[dT, sT] }) (B : Nat) (e elem : TypeId) (g n cap : Nat) (ao : Option Addr) (c : Nat) (xs cs : List Value)
    (hd : a.eval d = .slice (some ⟨g, 0, none⟩) n cap) (hx : a.eval x = .slice ao n c)
    (hu : P.underlying dT = some (.slice elem)) (hs : (P.info? elem).map (·.size) = some 1) (hown : w.ownsRow B e 1 (.slice (some ⟨g, 0, none⟩) n cap) n xs) (hcs : cs.length = n)
    (hsrc : 0 < n → ∃ ad, ao = some ad ∧ ∀ j v, cs[j]? = some v → w.cell? (ad.add j) = some v) (h1 : ∀ v ∈ cs, v.oneCell' = true)
    (hK : ∀ w', w'.ownsRow B e 1 (.slice (some ⟨g, 0, none⟩) n cap) n cs → w.grownBy w' (some g) → wpList P ops Q rest (a.put o.dst (goInt n)) w') : wpList P ops Q (o :: rest) a w := by
  refine wpList_plain hgd fun K hK' => ?_
  have hrun : ∃ w', (Builtin.copy_ #[dT, sT] o.type #[.slice (some ⟨g, 0, none⟩) n cap, .slice ao n c]).run P w = .ok (goInt n) w' ∧ w'.ownsRow B e 1 (.slice (some ⟨g, 0, none⟩) n cap) n cs ∧ w.grownBy w' (some g) := by
    by_cases h0 : n = 0
    · subst h0
      obtain rfl : cs = [] := List.eq_nil_of_length_eq_zero hcs
      obtain rfl : xs = [] := List.eq_nil_of_length_eq_zero (by simpa using hown.1)
      exact ⟨w, run_copy_none (P := P) w dT sT o.type elem _ ao 0 cap 0 c hu hs rfl, hown, World.grownBy.refl _ _⟩
    · obtain ⟨ad, rfl, hsrc'⟩ := hsrc (by omega)
      rcases hown.2 with ⟨h', _⟩ | ⟨g', cap', cur, h', hb, hg, hnc, hcm, hcz, htake⟩
      · simp at h'
      · simp only [Value.slice.injEq, Option.some.injEq, Addr.mk.injEq, and_true, true_and] at h'
        obtain ⟨rfl, rfl⟩ := h'
        have hr := run_copy_row (P := P) w dT sT o.type elem g 0 n cap ad n c cur e cs hu hs hg (by rw [hcs]; exact (Nat.min_self n).symm) hsrc' (by rw [hcs]; omega) h1
        rw [hcs] at hr
        refine ⟨_, hr, ⟨by simpa using hcs, .inr ⟨g, cap, _, rfl, hb, setRow_heap w g cur _ e _ hg, hnc, hcm, ?_, ?_⟩⟩, ⟨rfl, rfl, rfl, by simp [World.setRow], fun k _ hk => setRow_other w g k _ (fun e => hk (by simp [e]))⟩⟩
        · simp [hcs]; omega
        · simp [← hcs]
  obtain ⟨w', hrun, r1, r2⟩ := hrun
  unfold Oper.wp
  simp [execOp, ho, resolve, invoke, builtin, hd, hx, hrun, Result.andThen]
  exact hK' _ _ (hK w' r1 r2)

/-- 'append(v, nil...)': nothing turns. -/
theorem wpList_append_none {w : World} {ops : Array Oper} {rest : List Oper} {o : Oper} {a : Act} {Q : Exit → Act → World → Prop} (hgd : o.guard = none) (s x : Operand) (t : TypeId)
    (ho : o.op = .call { callee := .builtin .append, args := #[s, x], argTypes := #[t, t] })
    (B : Nat) (e : TypeId) (i : TypeInfo) (ht : P.underlying t = some (.slice e)) (hi : P.info? e = some i)
    (v : Value) (n : Nat) (xs : List Value) (hs : a.eval s = v) (hown : w.ownsRow B e 1 v n xs) (hx : a.eval x = .slice none 0 0)
    (h : wpList P ops Q rest (a.put o.dst v) w) : wpList P ops Q (o :: rest) a w := by
  refine wpList_plain hgd fun _ hK => ?_
  have hr := run_append_owned_none (P := P) w B t o.type e i 1 ht hi v n xs hown
  unfold Oper.wp execOp
  simp only [ho, resolve, invoke, builtin, Sem.run_bind, Sem.run_pure, Result.andThen_ok, List.map_toArray, List.map_cons, List.map_nil, hs, hx, hr]
  exact hK _ _ h

end

/-- the cells of a block that was laid second -/
theorem cells_new2 (w : World) (o : Obj) (cs : Array Value) (t : TypeId) : ∀ j u, cs.toList[j]? = some u → ((w.alloc o).alloc (.cells cs t)).cell? ((⟨w.heap.size + 1, 0, none⟩ : Addr).add j) = some u := by
  intro j u hu
  have hadd : (⟨w.heap.size + 1, 0, none⟩ : Addr).add j = ⟨w.heap.size + 1, j, none⟩ := by unfold Addr.add; split <;> simp_all
  have hb : ((w.alloc o).alloc (.cells cs t)).heap[w.heap.size + 1]? = some (.cells cs t (0, 0)) := by
    have := heap_alloc_new (w.alloc o) (.cells cs t)
    simpa using this
  rw [hadd, cell_of_row _ _ j cs t (0, 0) hb]
  simpa using hu

/-- A copy of what v owns in a new block: the place is new, the old value stands. -/
theorem Ext.moved {B : Nat} {e : TypeId} {w w' : World} {v v' : Value} {n : Nat} {xs : List Value} (h0 : w.ownsRow B e 1 v n xs) (hown : w'.ownsRow B e 1 v' n xs) (hb : ∀ k, k < w.heap.size → w'.heap[k]? = w.heap[k]?)
    (hos : w'.os = w.os) (htp : w'.tape = w.tape) (hot : w'.output = w.output) (hsz : w.heap.size ≤ w'.heap.size) (hp : ∃ k, v'.ownBlock = some k ∧ w.heap.size ≤ k) : Ext B e w w' v v' n xs 0 [] :=
  ⟨by simpa using hown, ownsRow_of_block h0 fun k hk => hb k (h0.lt k hk).2, ⟨hos, htp, hot, hsz, fun k hk _ => hb k hk⟩, .inr hp⟩

end Go.Proofs.Ybulkdcvi.Aid
