/-
  'sortStates' walked.
-/
import Derived.Test.YbonekuxeGreatHold
import Derived.Test.YbonekuxeGreatZero
namespace Go.Proofs.YbonekuxeGreat
open Go.RowKit Go.Deep Go.Proofs.YbonekuxeGreat.Plain

/-- the counts of the first i states; of the passes ahead of p, of one more -/
def F1 (d : Nat → El) (i p : Nat) (j : Nat) : Nat := cntTo (fun k => dig (d k) (j / 256)) (j % 256) (if j / 256 < p then i + 1 else i)

/-- what stands while the states are counted -/
structure Inv1 (w W : World) (g C n : Nat) (d : Nat → El) (F : Nat → Nat) : Prop where
  ra : W.rowIs g 41 (n * 5) (rc d)
  rC : W.rowIs C 55 2304 (cn F)
  gr : w.grownBy W (some g)
  oC : w.heap.size ≤ C
  aC : g ≠ C

theorem zc_row (w : World) (d : Nat → El) : (w.alloc (.cells zc 55)).rowIs w.heap.size 55 2304 (cn (F1 d 0 0)) := by
  refine ⟨zc, heap_alloc_last w _, by simp [zc], fun i hi => ?_⟩
  have h0 : F1 d 0 0 i = 0 := by simp [F1, cntTo]
  simp [zc, cn, h0, hi]

theorem F1_full (d : Nat → El) (i : Nat) (j : Nat) (hj : j < 2304) : F1 d i 9 j = F1 d (i + 1) 0 j := by
  unfold F1
  rw [if_pos (by omega), if_neg (by omega)]

theorem F1_step (d : Nat → El) (i p : Nat) (hc : (d i).c < 256) (j : Nat) : F1 d i (p + 1) j = if j = p * 256 + dig (d i) p then F1 d i p (p * 256 + dig (d i) p) + 1 else F1 d i p j := by
  have hd := dig_lt hc p
  unfold F1
  have e1 : (p * 256 + dig (d i) p) / 256 = p := by omega
  have e2 : (p * 256 + dig (d i) p) % 256 = dig (d i) p := by omega
  by_cases h : j = p * 256 + dig (d i) p
  · subst h
    rw [if_pos rfl, e1, e2, if_pos (by omega), if_neg (by omega)]
    simp [cntTo]
  · rw [if_neg h]
    by_cases h1 : j / 256 < p
    · rw [if_pos (by omega), if_pos h1]
    · rw [if_neg h1]
      by_cases h2 : j / 256 = p
      · rw [if_pos (by omega), h2]
        show _ + (if dig (d i) p = j % 256 then 1 else 0) = _
        rw [if_neg (by omega)]
        rfl
      · rw [if_neg (by omega)]

theorem Inv1.alloc {w W : World} {g C n : Nat} {d : Nat → El} {F : Nat → Nat} (h : Inv1 w W g C n d F) (o : Obj) : Inv1 w (W.alloc o) g C n d F :=
  ⟨row_alloc h.ra o, row_alloc h.rC o, grown_alloc h.gr o, h.oC, h.aC⟩

theorem Inv1.congr {w W : World} {g C n : Nat} {d : Nat → El} {F F' : Nat → Nat} (h : Inv1 w W g C n d F) (e : ∀ j, j < 2304 → F' j = F j) : Inv1 w W g C n d F' :=
  ⟨h.ra, h.rC.congr fun j hj => by simp only [cn, e j hj], h.gr, h.oC, h.aC⟩

/-- one state counted in one pass -/
theorem Inv1.count {w W : World} {g C n i p B J : Nat} {d : Nat → El} {x : El} (h : Inv1 w W g C n d (F1 d i p)) (hb : Box W B x) (hBC : B ≠ C) (hx : d i = x) (hc : x.c < 256) (hJ : p * 256 + dig x p = J) :
    Inv1 w ((((W.alloc (bx x)).setCell ⟨C, J, none⟩ (.int .i64 (F1 d i p J + 1))).drew)) g C n d (F1 d i (p + 1)) ∧ Box ((((W.alloc (bx x)).setCell ⟨C, J, none⟩ (.int .i64 (F1 d i p J + 1))).drew)) B x := by
  subst hx
  subst hJ
  have h1 := h.alloc (bx (d i))
  refine ⟨⟨(row_far h1.ra C _ _ h1.aC).drew, ?_, grown_drewN (grown_new h1.gr C _ _ h1.oC) 1, h.oC, h.aC⟩, (hb.alloc _).far C _ _ hBC⟩
  refine ((h1.rC.set _ _).congr fun j _ => ?_).drew
  simp only [cn]
  rw [F1_step d i p hc j]
  split <;> simp

theorem dig_gr (x : El) (p : Nat) (hp : p < 9) (w : World) (m : Gr w) : Calls Ybgs.prog 7 #[ev x, .int .i64 p] m.out fun e w' => e = .returned (.int .u8 (dig x p)) ∧ ∃ k : Gr w, w' = k.out :=
  (digit_any x p hp m.out).mono fun _ _ ⟨he, hw⟩ => ⟨he, ⟨_, m.grown.trans (by rw [hw]; exact World.grownBy_alloc _ _ _)⟩, rfl⟩

/-- the passes ahead of p are done -/
structure PS (n p : Nat) (d e : Nat → El) (F : Nat → Nat) : Prop where
  same : Same 0 n d e
  srt : Sorted (RL p) 0 n e
  cnt : ∀ j, p * 256 ≤ j → j < 2304 → F j = cntTo (fun k => dig (d k) (j / 256)) (j % 256) n

theorem le_step {p j : Nat} (h : (p + 1) * 256 ≤ j) : p * 256 ≤ j := Nat.le_trans (Nat.mul_le_mul_right 256 (Nat.le_succ p)) h

theorem PS.here {n p : Nat} {d e : Nat → El} {F : Nat → Nat} (h : PS n p d e F) (hi : ∀ i j, i < n → j < n → d i = d j → i = j) (hp : p < 9) (b : Nat) (hb : b < 256) : F (p * 256 + b) = cntTo (fun k => dig (e k) p) b n := by
  rw [h.cnt _ (by omega) (by omega), show (p * 256 + b) / 256 = p from by omega, show (p * 256 + b) % 256 = b from by omega]
  exact (cntTo_same h.same hi (fun x => dig x p) b).symm

theorem PS.skip {n p : Nat} {d e : Nat → El} {F : Nat → Nat} (h : PS n p d e F) (b : Nat) (ha : ∀ k, k < n → dig (e k) p = b) : PS n (p + 1) d e F :=
  ⟨h.same, fun i j i1 i2 i3 => RL_eq p (by rw [ha i (by omega), ha j i3]) (h.srt i j i1 i2 i3), fun j j1 j2 => h.cnt j (le_step j1) j2⟩

theorem PS.pass {n p : Nat} {d e f : Nat → El} {F F' : Nat → Nat} (h : PS n p d e F) (hc : ∀ k, k < n → (e k).c < 256) (hf : ∀ k, k < n → f (pos (fun k => dig (e k) p) n k) = e k) (hF : ∀ j, (p + 1) * 256 ≤ j → F' j = F j) :
    PS n (p + 1) d (fun k => if k < n then f k else e k) F' := by
  refine ⟨h.same.trans (pass_same (fun k => dig (e k) p) n 256 (fun i hi => dig_lt (hc i hi) p) hf), pass_sorted (fun x => dig x p) n 256 (fun i hi => dig_lt (hc i hi) p) hf h.srt (fun i j i1 _ hlt => RL_lt (hc i i1) p hlt) (fun i j _ _ heq hr => RL_eq p heq hr), fun j j1 j2 => ?_⟩
  rw [hF j j1]
  exact h.cnt j (le_step j1) j2

theorem run_inc {key : Nat → ByteArray} {n u v : Nat} {e : Nat → El} (hm : ∀ k, k < n → Made key n (e k)) (hs : Sorted (RL 9) 0 n e) (huv : u < v) (hv : v < n) (hc : (e u).c = (e v).c) (hh : (e u).h = (e v).h) : (e u).i < (e v).i := by
  rcases RL_nine (hm u (by omega)).hlt (hm v hv).hlt (hs u v (Nat.zero_le _) huv hv) with h | h
  · unfold CH at h; omega
  · exact h.2.2

theorem ne_own {ga g T size : Nat} (h : ga = g ∨ size ≤ ga) (hg : g ≠ T) (ht : T < size) : ga ≠ T := by omega

theorem grown_two {w W W' : World} {g ga : Nat} (h : w.grownBy W (some g)) (ha : ga = g ∨ w.heap.size ≤ ga) (k : W.grownBy W' (some ga)) : w.grownBy W' (some g) :=
  ⟨k.os.trans h.os, k.tape.trans h.tape, k.output.trans h.output, Nat.le_trans h.size k.size, fun q hq hne => (k.block q (Nat.lt_of_lt_of_le hq h.size) (by
    intro he
    have : q = ga := by simpa using he
    rcases ha with ha | ha
    · exact hne (by rw [this, ha])
    · omega)).trans (h.block q hq hne)⟩

set_option maxRecDepth 100000 in
set_option maxHeartbeats 40000000 in
theorem sortStates_any (T G O n : Nat) (key : Nat → ByteArray) (g : Nat) (d : Nat → El) (w : World) (hT : g ≠ T) (hG : g ≠ G) (hO : g ≠ O) (ht0 : Tree w T G O n key) (hrow0 : w.rowIs g 41 (n * 5) (rc d)) (hn : n ≤ 512)
    (hm : ∀ k, k < n → Made key n (d k)) (hix : ∀ k, k < n → (d k).i = k) :
    Calls Ybgs.prog 6 #[.pointer (some ⟨T, 0, none⟩), .slice (some ⟨g, 0, none⟩) n n] w fun e w' => (∃ g' d', e = .returned (.slice (some ⟨g', 0, none⟩) n n) ∧ w'.rowIs g' 41 (n * 5) (rc d') ∧ Same 0 n d d' ∧ Sorted (RW key) 0 n d') ∧ w.grownBy w' (some g) := by
  have HTT := Hid.mk' hT
  have HGG := Hid.mk' hG
  have HOO := Hid.mk' hO
  have HT0 := Hid.mk' ht0
  have HM := Hid.mk' hm
  have HIX := Hid.mk' hix
  obtain ⟨C, hC⟩ : ∃ C, w.heap.size = C := ⟨_, rfl⟩
  have HINV : Hid (Inv1 w (w.alloc (.cells zc 55)) g C n d (F1 d 0 0)) := ⟨row_alloc hrow0 _, by rw [← hC]; exact zc_row w d, World.grownBy_alloc _ _ _, by omega, by have := row_lt hrow0; omega⟩
  have hz55 := (zero_of_info info55).1
  have HMC : Hid (∀ k, k < n → (d k).c < 256) := fun k hk => (hm k hk).c
  have HINJ : Hid (∀ i j, i < n → j < n → d i = d j → i = j) := fun i j hi hj he => by rw [← hix i hi, ← hix j hj, he]
  clear hT hG hO ht0 hm hix hrow0
  generalize zc = Z at *
  go_enter Ybgs.func6, Ybgs.ntmps6
  go_wp2
  clear hz55 hC
  generalize w.alloc (.cells Z 55) = W0 at *
  go_loopw [23] (fun vi wr => ∃ i : Nat, i ≤ n ∧ vi = .int .i64 i ∧ Hid (Inv1 w wr g C n d (F1 d i 0))) (fun vi _ => n - (intOf vi).toNat)
  case atStart => exact ⟨0, Nat.zero_le _, rfl, HINV⟩
  case round =>
    clear HINV
    obtain ⟨i, hi, rfl, HI⟩ := hrel
    by_cases hlt : i < n
    · have x5 := row_five HI.out.ra i hlt rfl
      obtain ⟨x0, x1, x2, x3, x4⟩ := x5
      have hi5 : (i : Int) < (n : Int) := by omega
      obtain ⟨x, hx⟩ : ∃ x, d i = x := ⟨_, rfl⟩
      rw [hx] at x0 x2 x3 x4
      have HX := Hid.mk' hx
      have HXC : Hid (x.c < 256) := by have := (HM.out i hlt).c; rw [hx] at this; exact this
      clear hx
      obtain ⟨B, hB⟩ : ∃ B, wr.heap.size = B := ⟨_, rfl⟩
      have HIB : Hid (Inv1 w (wr.alloc (bx x)) g C n d (F1 d i 0) ∧ Box (wr.alloc (bx x)) B x) := ⟨HI.out.alloc _, by rw [← hB]; exact Box.new wr x⟩
      have HBC : Hid (B ≠ C) := by have := row_lt HI.out.rC; show B ≠ C; omega
      unfold bx at HIB
      go_wp2
      clear hB x0 x1 x2 x3 x4 HI
      generalize wr.alloc (Obj.cells #[.int .u64 x.h, .int .u32 0, .int .u32 x.i, .int .u8 x.c, .bool x.l] 41) = W1 at *
      go_loopw [27] (fun vp wq => ∃ p : Nat, p ≤ 9 ∧ vp = .int .i64 p ∧ Hid (Inv1 w wq g C n d (F1 d i p) ∧ Box wq B x)) (fun vp _ => 9 - (intOf vp).toNat)
      case atStart => exact ⟨0, Nat.zero_le _, rfl, HIB⟩
      case round =>
        clear HIB
        obtain ⟨p, hp, rfl, HP⟩ := hrel
        by_cases hp9 : p < 9
        · obtain ⟨b0, b1, b2, b3, b4⟩ := HP.out.2.five
          obtain ⟨b, hb⟩ : ∃ b, dig x p = b := ⟨_, rfl⟩
          have hb256 : b < 256 := by rw [← hb]; exact dig_lt HXC.out p
          obtain ⟨J, hJ⟩ : ∃ J, p * 256 + b = J := ⟨_, rfl⟩
          obtain ⟨c, hc⟩ : ∃ c, F1 d i p J = c := ⟨_, rfl⟩
          have cJ : (wr.alloc (bx x)).cell? ⟨C, J, none⟩ = some (.int .i64 c) := by
            rw [(row_alloc HP.out.1.rC (bx x)).cell (by omega)]; simp only [cn, hc]
          have fJ : (wr.alloc (bx x)).frozen? ⟨C, J, none⟩ = false := (row_alloc HP.out.1.rC (bx x)).frozen _
          have hcl : c ≤ n := by rw [← hc]; unfold F1; exact Nat.le_trans (cntTo_le _ _ _) (by split <;> omega)
          have HDG := Hid.mk' (digit_any x p hp9)
          unfold ev at HDG
          rw [hb] at HDG
          have HF := Hid.mk' (HP.out.1.count (J := J) HP.out.2 HBC.out HX.out HXC.out (by rw [hb]; exact hJ))
          rw [hc] at HF
          have wc1 : IntKind.i64.wrap ((c : Int) + 1) = (c : Int) + 1 := by rw [IntKind.wrap_i64]; omega
          have p9 : (p : Int) < 9 := by omega
          have b9 : (b : Int) < 256 := by omega
          clear hb hc HP
          go_upto_region 9 with fail
          go_region_with (first | (go_at_call 7; refine (HDG.out _).mono ?_; rintro _ w1 ⟨rfl, rfl⟩))
          go_wp2
          go_roundw
          case rel => exact ⟨p + 1, by omega, by go_num, HF⟩
          case measure => simp [intOf]; omega
        · obtain rfl : p = 9 := by omega
          have HN : Hid (Inv1 w wr g C n d (F1 d (i + 1) 0)) := HP.out.1.congr fun j hj => (F1_full d i j hj).symm
          clear HP
          go_wp2
          go_roundw
          case rel => exact ⟨i + 1, by omega, by go_num, HN⟩
          case measure => simp [intOf]; omega
    · have hin : i = n := by omega
      subst hin
      obtain ⟨S, hS⟩ : ∃ S, wr.heap.size = S := ⟨_, rfl⟩
      have hmk := make_states i (by omega)
      have HIV : Hid (Inv w (wr.alloc (.cells (zrow i) 41)) g g S C i d (fun _ => zel) (F1 d i 0) ∧ PS i 0 d d (F1 d i 0)) := by
        have h1 := HI.out
        have hg := row_lt h1.ra
        have hcl := row_lt h1.rC
        have hgs := h1.gr.size
        refine ⟨⟨row_alloc h1.ra _, by rw [← hS]; exact zrow_is wr i, row_alloc h1.rC _, grown_alloc h1.gr _, .inl rfl, .inr (by omega), h1.oC, by omega, h1.aC, by omega⟩,
          ⟨Same.refl _ _ _, fun a b _ h2 h3 => .inr ⟨rfl, by rw [HIX.out a (by omega), HIX.out b h3]; exact h2⟩, fun j _ _ => by unfold F1; rw [if_neg (by omega)]⟩⟩
      clear hi hlt
      go_wp2
      clear hmk hS HI
      generalize wr.alloc (.cells (zrow i) 41) = W1 at *
      go_loopw [1, 10, 46] (fun vs vt vp wr => ∃ p ga gb : Nat, ∃ e f : Nat → El, ∃ F : Nat → Nat, p ≤ 9 ∧ vs = .slice (some ⟨ga, 0, none⟩) i i ∧ vt = .slice (some ⟨gb, 0, none⟩) i i ∧ vp = .int .i64 p ∧ Hid (Inv w wr g ga gb C i e f F ∧ PS i p d e F)) (fun _ _ vp _ => 9 - (intOf vp).toNat)
      case atStart => exact ⟨0, g, S, d, _, _, Nat.zero_le _, rfl, rfl, rfl, HIV⟩
      case round =>
        clear HIV
        obtain ⟨p, ga, gb, e, f, F, hp, rfl, rfl, rfl, HV⟩ := hrel
        by_cases hp9 : p < 9
        · have p9 : (p : Int) < 9 := by omega
          by_cases hi0 : i = 0
          · have HPS : Hid (PS i (p + 1) d e F) := HV.out.2.skip 0 fun k hk => by omega
            have hib : ((i : Int) == 0) = true := by simp; omega
            go_upto_region 16 with fail
            go_quiet (fail)
            have HVN : Hid (Inv w (wr.drewN nq) g ga gb C i e f F) := HV.out.1.more (grown_drewN (World.grownBy.refl _ _) nq)
            generalize wr.drewN nq = W2 at *
            go_wp2
            go_roundw
            case rel => exact ⟨p + 1, ga, gb, e, f, F, by omega, rfl, rfl, by go_num, HVN.out, HPS.out⟩
            case measure => simp [intOf]; omega
          · have hib : ((i : Int) == 0) = false := by simp; omega
            have hi1 : 0 < i := by omega
            obtain ⟨x0, x1, x2, x3, x4⟩ := row_gr HV.out.1.ra 0 hi1 (A := 0) rfl
            simp only [Nat.zero_add] at x1 x2 x3 x4
            obtain ⟨x, hx⟩ : ∃ x, e 0 = x := ⟨_, rfl⟩
            rw [hx] at x0 x2 x3 x4
            have hxc : x.c < 256 := by
              obtain ⟨l, _, l2, el⟩ := HV.out.2.same.fwd 0 (Nat.zero_le _) hi1
              rw [← hx, el]; exact HMC.out l l2
            obtain ⟨b, hb⟩ : ∃ b, dig x p = b := ⟨_, rfl⟩
            have hb256 : b < 256 := by rw [← hb]; exact dig_lt hxc p
            obtain ⟨J, hJ⟩ : ∃ J, p * 256 + b = J := ⟨_, rfl⟩
            obtain ⟨c, hc⟩ : ∃ c, F J = c := ⟨_, rfl⟩
            have cJ : ∀ m : Gr wr, m.out.cell? ⟨C, J, none⟩ = some (.int .i64 c) := gr_cell (by rw [HV.out.1.rC.cell (by omega)]; simp only [cn, hc])
            have HDG := Hid.mk' (dig_gr x p hp9 wr)
            unfold ev at HDG
            rw [hb] at HDG
            have b9 : (b : Int) < 256 := by omega
            have HC : Hid (c = cntTo (fun k => dig (e k) p) b i) := by
              show c = _
              rw [← hc, ← hJ]; exact HV.out.2.here HINJ.out hp9 b hb256
            clear hb hc hx
            go_upto_region 16 with fail
            have hne : Nonempty (Gr wr) := ⟨⟨wr, World.grownBy.refl _ _⟩⟩
            refine wp_region_grow (by kernel_rfl) (by kernel_rfl) ?_
            repeat (go_big_quiet_step (first | (go_at_call 7; exact HDG.out _)))
            refine wpQuiet_nil ?_
            intro _ hw'
            obtain ⟨nq, hw''⟩ := hw'
            subst hw''
            have HVN : Hid (Inv w nq.out g ga gb C i e f F ∧ PS i p d e F) := ⟨HV.out.1.more nq.grown, HV.out.2⟩
            clear HV x0 x1 x2 x3 x4 cJ HDG
            generalize nq.out = W2 at *
            by_cases hall : c = i
            · have hcb : ((c : Int) == (i : Int)) = true := by simp; omega
              have HPS : Hid (PS i (p + 1) d e F) := HVN.out.2.skip b fun k hk => cntTo_full (fun k => dig (e k) p) b i (by rw [← HC.out]; exact hall) k hk
              rw [hcb]
              go_wp2
              go_roundw
              case rel => exact ⟨p + 1, ga, gb, e, f, F, by omega, rfl, rfl, by go_num, HVN.out.1, HPS.out⟩
              case measure => simp [intOf]; omega
            · have hcb : ((c : Int) == (i : Int)) = false := by simp; omega
              rw [hcb]
              clear HC hJ hb256 b9 hxc
              obtain ⟨fd, hfd⟩ : ∃ fd : Nat → Nat, fd = fun k => dig (e k) p := ⟨_, rfl⟩
              have HEC : Hid (∀ k, k < i → (e k).c < 256) := fun k hk => by
                obtain ⟨l, _, l2, el⟩ := HVN.out.2.same.fwd k (Nat.zero_le _) hk
                rw [el]; exact HMC.out l l2
              have HFL : Hid (∀ k, k < i → fd k < 256) := fun k hk => by rw [hfd]; exact dig_lt (HEC.out k hk) p
              have HCC : Hid (∀ b, b < 256 → F (p * 256 + b) = cntTo fd b i) := fun b hb => by rw [hfd]; exact HVN.out.2.here HINJ.out hp9 b hb
              have HALL : Hid (pre (fun b => cntTo fd b i) 256 = i) := pre_all fd 256 i HFL.out
              have HFD := Hid.mk' hfd
              clear hfd
              have H0 : Hid (Inv w W2 g ga gb C i e f (Hi F (fun b => cntTo fd b i) p 0)) := HVN.out.1.congr (fun _ _ => rfl) (fun _ _ => rfl) (fun j _ => Hi_zero _ _ _ j)
              have HPS : Hid (PS i p d e F) := HVN.out.2
              clear HVN
              obtain ⟨cc, hcc⟩ : ∃ cc : Nat → Nat, cc = fun b => cntTo fd b i := ⟨_, rfl⟩
              rw [← hcc] at H0 HALL
              have HCD := Hid.mk' hcc
              clear hcc
              go_wp2
              go_loopw [13, 70] (fun vst vb wr => ∃ b : Nat, b ≤ 256 ∧ vst = .int .i64 (pre cc b) ∧ vb = .int .i64 b ∧ Hid (Inv w wr g ga gb C i e f (Hi F cc p b))) (fun _ vb _ => 256 - (intOf vb).toNat)
              case atStart => exact ⟨0, Nat.zero_le _, rfl, rfl, H0⟩
              case round =>
                clear H0
                obtain ⟨b, hb, rfl, rfl, HV⟩ := hrel
                by_cases hb256 : b < 256
                · obtain ⟨J, hJ⟩ : ∃ J, p * 256 + b = J := ⟨_, rfl⟩
                  have hJl : J < 2304 := by omega
                  obtain ⟨cv, hcv⟩ : ∃ c, Hi F cc p b J = c := ⟨_, rfl⟩
                  have hcv' : cv = cc b := by
                    rw [← hcv, HCD.out, ← hJ]; unfold Hi; rw [if_neg (by omega)]; exact HCC.out b hb256
                  obtain ⟨st, hst⟩ : ∃ s, pre cc b = s := ⟨_, rfl⟩
                  obtain ⟨st', hst'⟩ : ∃ s, pre cc (b + 1) = s := ⟨_, rfl⟩
                  have hadd : st + cv = st' := by rw [← hst, ← hst', hcv']; rfl
                  have hst'l : st' ≤ i := by rw [← hst', ← HALL.out]; exact pre_mono cc (by omega)
                  have eadd : (st : Int) + (cv : Int) = (st' : Int) := by omega
                  have cJ : wr.cell? ⟨C, J, none⟩ = some (.int .i64 cv) := by rw [HV.out.rC.cell hJl]; simp only [cn, hcv]
                  have b9 : (b : Int) < 256 := by omega
                  have HADD := Hid.mk' hadd
                  have HST := Hid.mk' hst
                  have HST' := Hid.mk' hst'
                  have HJJ := Hid.mk' hJ
                  clear hcv hcv' hadd hst hst'
                  have HSTB : Hid (pre cc b = st) := HST
                  rw [HST.out]
                  go_upto_region 20 with fail
                  go_quiet (fail)
                  have HVN : Hid (Inv w (wr.drewN nq) g ga gb C i e f (Hi F cc p b)) := HV.out.more (grown_drewN (World.grownBy.refl _ _) nq)
                  have cJ' : (wr.drewN nq).cell? ⟨C, J, none⟩ = some (.int .i64 cv) := cJ
                  have fJ : (wr.drewN nq).frozen? ⟨C, J, none⟩ = false := HVN.out.rC.frozen _
                  clear cJ HV
                  generalize wr.drewN nq = W3 at *
                  have HF := Hid.mk' (HVN.out.setC J st)
                  go_wp2
                  go_roundw
                  case rel =>
                    refine ⟨b + 1, by omega, by rw [HST'.out], by go_num, ?_⟩
                    exact HF.out.congr (fun _ _ => rfl) (fun _ _ => rfl) fun j _ => by rw [Hi_step, HJJ.out, HST.out]
                  case measure => simp [intOf]; omega
                · obtain rfl : b = 256 := by omega
                  clear hb hb256
                  have H0 : Hid (Inv w wr g ga gb C i e f (Gi F cc fd p 0) ∧ ∀ l, l < 0 → f (pos fd i l) = e l) := ⟨HV.out.congr (fun _ _ => rfl) (fun _ _ => rfl) (fun j _ => Hi_full F cc fd p j), fun l hl => absurd hl (Nat.not_lt_zero l)⟩
                  clear HV
                  go_wp2
                  go_loopw [87] (fun vk wr => ∃ k : Nat, ∃ f : Nat → El, k ≤ i ∧ vk = .int .i64 k ∧ Hid (Inv w wr g ga gb C i e f (Gi F cc fd p k) ∧ ∀ l, l < k → f (pos fd i l) = e l)) (fun vk _ => i - (intOf vk).toNat)
                  case atStart => exact ⟨0, f, Nat.zero_le _, rfl, H0⟩
                  case round =>
                    clear H0
                    obtain ⟨k, f, hk, rfl, HV⟩ := hrel
                    by_cases hki : k < i
                    · obtain ⟨x0, x1, x2, x3, x4⟩ := row_five HV.out.1.ra k hki rfl
                      have ki : (k : Int) < (i : Int) := by omega
                      obtain ⟨x, hx⟩ : ∃ x, e k = x := ⟨_, rfl⟩
                      rw [hx] at x0 x2 x3 x4
                      obtain ⟨b, hb⟩ : ∃ b, dig x p = b := ⟨_, rfl⟩
                      have hfk : fd k = b := by rw [HFD.out, ← hb, ← hx]
                      have hb256 : b < 256 := by rw [← hfk]; exact HFL.out k hki
                      obtain ⟨J, hJ⟩ : ∃ J, p * 256 + b = J := ⟨_, rfl⟩
                      have hJl : J < 2304 := by omega
                      obtain ⟨ps, hps⟩ : ∃ q, pos fd i k = q := ⟨_, rfl⟩
                      have hpsl : ps < i := by rw [← hps]; exact pos_lt fd i 256 HFL.out hki
                      have hGJ : Gi F cc fd p k J = ps := by rw [← hJ, Gi_at _ _ _ _ _ _ hb256, ← hps, HCD.out, ← hfk]; rfl
                      obtain ⟨K, hK⟩ : ∃ K, ps * 5 = K := ⟨_, rfl⟩
                      obtain ⟨B, hB⟩ : ∃ B, wr.heap.size = B := ⟨_, rfl⟩
                      have HBOX : Hid (Inv w (wr.alloc (bx x)) g ga gb C i e f (Gi F cc fd p k) ∧ Box (wr.alloc (bx x)) B x ∧ B ≠ C ∧ B ≠ gb) :=
                        ⟨HV.out.1.more (World.grownBy_alloc _ _ _), by rw [← hB]; exact Box.new wr x, by have := row_lt HV.out.1.rC; omega, by have := row_lt HV.out.1.rb; omega⟩
                      have HFP : Hid (∀ l, l < k + 1 → put f ps x (pos fd i l) = e l) := fun l hl => by
                        unfold put
                        by_cases hlk : l = k
                        · rw [if_pos (by rw [hlk]; exact hps), hlk, hx]
                        · rw [if_neg, HV.out.2 l (by omega)]
                          intro h
                          exact hlk (pos_inj fd i (by omega) hki (h.trans hps.symm))
                      have HGS : Hid (∀ j, Gi F cc fd p (k + 1) j = if j = J then ps + 1 else Gi F cc fd p k j) := fun j => by
                        rw [Gi_step _ _ _ _ _ _ (by omega), hfk, hJ]
                        have : pre cc b + cntTo fd b k = ps := by rw [← hps, HCD.out, ← hfk]; rfl
                        rw [this]
                      have HDG := Hid.mk' (digit_any x p hp9)
                      unfold ev at HDG
                      rw [hb] at HDG
                      have b9 : (b : Int) < 256 := by omega
                      have psi : (ps : Int) < (i : Int) := by omega
                      have wps : IntKind.i64.wrap ((ps : Int) + 1) = (ps : Int) + 1 := by rw [IntKind.wrap_i64]; omega
                      have HGJ := Hid.mk' hGJ
                      have HKK := Hid.mk' hK
                      clear hb hfk hps hx HV hGJ
                      go_upto_region 26 with fail
                      clear x0 x1 x2 x3 x4 hB
                      have HBOX' := HBOX
                      unfold bx at HBOX
                      generalize wr.alloc (Obj.cells #[.int .u64 x.h, .int .u32 0, .int .u32 x.i, .int .u8 x.c, .bool x.l] 41) = W4 at *
                      clear HBOX'
                      obtain ⟨y0, y1, y2, y3, y4⟩ := HBOX.out.2.1.five
                      obtain ⟨z0, z1, z2, z3, z4⟩ := (HBOX.out.2.1.alloc (bx x)).five
                      have HAL : Hid (Inv w (W4.alloc (bx x)) g ga gb C i e f (Gi F cc fd p k)) := HBOX.out.1.more (World.grownBy_alloc _ _ _)
                      have cJ : (W4.alloc (bx x)).cell? ⟨C, J, none⟩ = some (.int .i64 ps) := by rw [HAL.out.rC.cell hJl]; simp only [cn, HGJ.out]
                      obtain ⟨v0, v1, v2, v3, v4⟩ := row_five HAL.out.rb ps hpsl hK
                      obtain ⟨r0, r1, r2, r3, r4⟩ := row_free HAL.out.rb K
                      have HPUT := Hid.mk' (HAL.out.putB x hK)
                      have HBX2 := Hid.mk' ((HBOX.out.2.1.alloc (bx x)).far5 gb K (.int .u64 x.h) (.int .u32 0) (.int .u32 x.i) (.int .u8 x.c) (.bool x.l) HBOX.out.2.2.2)
                      go_cut [101] (fun _ wx => wx = ((((((W4.alloc (bx x)).setCell ⟨gb, K, none⟩ (.int .u64 x.h)).setCell ⟨gb, K + 1, none⟩ (.int .u32 0)).setCell ⟨gb, K + 2, none⟩ (.int .u32 x.i)).setCell ⟨gb, K + 3, none⟩ (.int .u8 x.c)).setCell ⟨gb, K + 4, none⟩ (.bool x.l)).drew)
                      case first =>
                        go_region_with (first | (go_at_call 7; refine (HDG.out _).mono ?_; rintro _ w1 ⟨rfl, rfl⟩))
                        all_goals (go_wp2_with fail; go_meet)
                        all_goals rfl
                      case rest =>
                        subst hcut
                        have HW5 : Hid (Inv w ((((((W4.alloc (bx x)).setCell ⟨gb, K, none⟩ (.int .u64 x.h)).setCell ⟨gb, K + 1, none⟩ (.int .u32 0)).setCell ⟨gb, K + 2, none⟩ (.int .u32 x.i)).setCell ⟨gb, K + 3, none⟩ (.int .u8 x.c)).setCell ⟨gb, K + 4, none⟩ (.bool x.l)).drew g ga gb C i e (put f ps x) (Gi F cc fd p k)
                            ∧ Box ((((((W4.alloc (bx x)).setCell ⟨gb, K, none⟩ (.int .u64 x.h)).setCell ⟨gb, K + 1, none⟩ (.int .u32 0)).setCell ⟨gb, K + 2, none⟩ (.int .u32 x.i)).setCell ⟨gb, K + 3, none⟩ (.int .u8 x.c)).setCell ⟨gb, K + 4, none⟩ (.bool x.l)).drew B x) :=
                          ⟨HPUT.out.more (grown_drewN (World.grownBy.refl _ _) 1), HBX2.out⟩
                        clear y0 y1 y2 y3 y4 z0 z1 z2 z3 z4 cJ v0 v1 v2 v3 v4 r0 r1 r2 r3 r4 HPUT HBX2 HAL
                        generalize ((((((W4.alloc (bx x)).setCell ⟨gb, K, none⟩ (.int .u64 x.h)).setCell ⟨gb, K + 1, none⟩ (.int .u32 0)).setCell ⟨gb, K + 2, none⟩ (.int .u32 x.i)).setCell ⟨gb, K + 3, none⟩ (.int .u8 x.c)).setCell ⟨gb, K + 4, none⟩ (.bool x.l)).drew = W5 at *
                        obtain ⟨y0, y1, y2, y3, y4⟩ := HW5.out.2.five
                        have HAL : Hid (Inv w (W5.alloc (bx x)) g ga gb C i e (put f ps x) (Gi F cc fd p k)) := HW5.out.1.more (World.grownBy_alloc _ _ _)
                        have cJ : (W5.alloc (bx x)).cell? ⟨C, J, none⟩ = some (.int .i64 ps) := by rw [HAL.out.rC.cell hJl]; simp only [cn, HGJ.out]
                        have fJ : (W5.alloc (bx x)).frozen? ⟨C, J, none⟩ = false := HAL.out.rC.frozen _
                        have HSET := Hid.mk' ((HAL.out.setC J (ps + 1)).more (grown_drewN (World.grownBy.refl _ _) 1))
                        go_upto_region 27 with fail
                        go_region_with (first | (go_at_call 7; refine (HDG.out _).mono ?_; rintro _ w1 ⟨rfl, rfl⟩))
                        go_wp2
                        go_roundw
                        case rel =>
                          (repeat apply Exists.intro)
                          refine ⟨⟨k + 1, put f ps x, by omega, by go_num, ?_, HFP.out⟩, rfl⟩
                          exact HSET.out.congr (fun _ _ => rfl) (fun _ _ => rfl) (fun j _ => HGS.out j)
                        case measure => simp [intOf]; omega
                    · obtain rfl : k = i := by omega
                      go_wp2
                      go_roundw
                      case rel =>
                        refine ⟨p + 1, gb, ga, _, e, _, by omega, rfl, rfl, by go_num, ?_, HPS.out.pass HEC.out (by rw [← HFD.out]; exact HV.out.2) (fun j hj => Gi_above F cc fd p k j hj)⟩
                        exact HV.out.1.swap.congr (fun q hq => by rw [if_pos hq]) (fun _ _ => rfl) (fun _ _ => rfl)
                      case measure => simp [intOf]; omega
        · obtain rfl : p = 9 := by omega
          have HPS : Hid (PS i 9 d e F) := HV.out.2
          have HMD : Hid (∀ k, k < i → Made key i (e k)) := fun k hk => by
            obtain ⟨l, _, l2, el⟩ := HPS.out.same.fwd k (Nat.zero_le _) hk
            rw [el]; exact HM.out l l2
          have HOA : Hid (ga = g ∨ w.heap.size ≤ ga) := HV.out.1.oa
          have HR0 : Hid (Runs key i 0 e e ∧ wr.rowIs ga 41 (i * 5) (rc e) ∧ w.grownBy wr (some g)) := ⟨Runs.start key i e, HV.out.1.ra, HV.out.1.gr⟩
          clear HV hp hp9
          go_wp2
          go_loopw [18] (fun va wr => ∃ a : Nat, ∃ e' : Nat → El, a ≤ i ∧ va = .int .i64 a ∧ Hid (Runs key i a e e' ∧ wr.rowIs ga 41 (i * 5) (rc e') ∧ w.grownBy wr (some g))) (fun va _ => i - (intOf va).toNat)
          case atStart => exact ⟨0, e, Nat.zero_le _, rfl, HR0⟩
          case round =>
            clear HR0
            obtain ⟨a, e', ha, rfl, HV⟩ := hrel
            by_cases hai : a < i
            · have hai' : (a : Int) < (i : Int) := by omega
              obtain ⟨A, hA⟩ : ∃ A, a * 5 = A := ⟨_, rfl⟩
              obtain ⟨x0, x1, x2, x3, x4⟩ := row_five HV.out.2.1 a hai hA
              obtain ⟨lg, hlg⟩ : ∃ q, (e' a).l = q := ⟨_, rfl⟩
              rw [hlg] at x4
              have HLG := Hid.mk' hlg
              clear hlg x1 x2
              go_upto_region 33 with fail
              go_quiet (fail)
              have HV1 : Hid (Runs key i a e e' ∧ (wr.drewN nq).rowIs ga 41 (i * 5) (rc e') ∧ w.grownBy (wr.drewN nq) (some g)) := ⟨HV.out.1, row_stay HV.out.2.1 (grown_drewN (World.grownBy.refl _ none) nq) (by simp), grown_drewN HV.out.2.2 nq⟩
              clear HV x0 x3 x4
              generalize wr.drewN nq = W2 at *
              have HB0 : Hid ((∀ k, a ≤ k → k < a + 1 → (e' k).c = (e' a).c ∧ (e' k).h = (e' a).h) ∧ (lg = false → ∀ k, a ≤ k → k < a + 1 → (e' k).l = false)) := by
                refine ⟨fun k k1 k2 => ?_, fun h k k1 k2 => ?_⟩
                · rw [show k = a from by omega]; exact ⟨rfl, rfl⟩
                · rw [show k = a from by omega, HLG.out, h]
              go_wp2
              go_loopw [19, 20] (fun vb vl wr => ∃ b : Nat, ∃ lg : Bool, a < b ∧ b ≤ i ∧ vb = .int .i64 b ∧ vl = .bool lg ∧ Hid ((∀ k, a ≤ k → k < b → (e' k).c = (e' a).c ∧ (e' k).h = (e' a).h) ∧ (lg = false → ∀ k, a ≤ k → k < b → (e' k).l = false)) ∧ Hid (Runs key i a e e' ∧ wr.rowIs ga 41 (i * 5) (rc e') ∧ w.grownBy wr (some g))) (fun vb _ _ => i - (intOf vb).toNat)
              case atStart => exact ⟨a + 1, lg, by omega, by omega, by go_num, rfl, HB0, HV1⟩
              case round =>
                clear HV1 HB0 HLG
                obtain ⟨b, lq, hab, hbi, rfl, rfl, HB, HV⟩ := hrel
                by_cases hbl : b < i
                · have hbi' : (b : Int) < (i : Int) := by omega
                  obtain ⟨Z, hZ⟩ : ∃ Z, b * 5 = Z := ⟨_, rfl⟩
                  obtain ⟨x0, x1, x2, x3, x4⟩ := row_five HV.out.2.1 a hai hA
                  obtain ⟨y0, y1, y2, y3, y4⟩ := row_five HV.out.2.1 b hbl hZ
                  clear x1 x2 y1 y2 x4
                  obtain ⟨ca, hca⟩ : ∃ q, (e' a).c = q := ⟨_, rfl⟩
                  obtain ⟨cb', hcb⟩ : ∃ q, (e' b).c = q := ⟨_, rfl⟩
                  obtain ⟨hda, hha⟩ : ∃ q, (e' a).h = q := ⟨_, rfl⟩
                  obtain ⟨hdb, hhb⟩ : ∃ q, (e' b).h = q := ⟨_, rfl⟩
                  obtain ⟨lb, hlb⟩ : ∃ q, (e' b).l = q := ⟨_, rfl⟩
                  rw [hca] at x3
                  rw [hha] at x0
                  rw [hcb] at y3
                  rw [hhb] at y0
                  rw [hlb] at y4
                  have HE := Hid.mk' (And.intro hca (And.intro hcb (And.intro hha (And.intro hhb hlb))))
                  clear hca hcb hha hhb hlb
                  by_cases hgo : cb' = ca ∧ hdb = hda
                  · have e1 : ((cb' : Int) == (ca : Int)) = true := by simp [hgo.1]
                    have e2 : ((hdb : Int) == (hda : Int)) = true := by simp [hgo.2]
                    have HGO := Hid.mk' hgo
                    clear hgo
                    go_upto_region 34 with fail
                    go_quiet (fail)
                    have HV1 : Hid (Runs key i a e e' ∧ (wr.drewN nq).rowIs ga 41 (i * 5) (rc e') ∧ w.grownBy (wr.drewN nq) (some g)) := ⟨HV.out.1, row_stay HV.out.2.1 (grown_drewN (World.grownBy.refl _ none) nq) (by simp), grown_drewN HV.out.2.2 nq⟩
                    have y4' : (wr.drewN nq).cell? ⟨ga, Z + 4, none⟩ = some (.bool lb) := y4
                    clear HV x0 x3 y0 y3 y4
                    generalize wr.drewN nq = W3 at *
                    cases lq
                    all_goals
                      go_wp2
                      go_roundw
                      case rel =>
                        refine ⟨b + 1, _, by omega, by omega, by go_num, rfl, ⟨fun k k1 k2 => ?_, fun hl k k1 k2 => ?_⟩, HV1⟩
                        · by_cases hkb : k = b
                          · rw [hkb, HE.out.2.1, HE.out.1, HE.out.2.2.2.1, HE.out.2.2.1]; exact HGO.out
                          · exact HB.out.1 k k1 (by omega)
                        · first
                            | (by_cases hkb : k = b
                               · rw [hkb, HE.out.2.2.2.2]; exact hl
                               · exact HB.out.2 rfl k k1 (by omega))
                            | (exact absurd hl (by decide))
                      case measure => simp [intOf]; omega
                  · have HEND : Hid (b < i → ¬ ((e b).c = (e a).c ∧ (e b).h = (e a).h)) := fun _ hh => by
                      rw [← HV.out.1.rest b (by omega), ← HV.out.1.rest a (Nat.le_refl _), HE.out.1, HE.out.2.1, HE.out.2.2.1, HE.out.2.2.2.1] at hh
                      exact hgo hh
                    by_cases hcc : cb' = ca
                    · have e1 : ((cb' : Int) == (ca : Int)) = true := by simp [hcc]
                      have e2 : ((hdb : Int) == (hda : Int)) = false := by simp; omega
                      clear hcc hgo
                      go_upto_region 34 with fail
                      go_quiet (fail)
                      have HV1 : Hid (Runs key i a e e' ∧ (wr.drewN nq).rowIs ga 41 (i * 5) (rc e') ∧ w.grownBy (wr.drewN nq) (some g)) := ⟨HV.out.1, row_stay HV.out.2.1 (grown_drewN (World.grownBy.refl _ none) nq) (by simp), grown_drewN HV.out.2.2 nq⟩
                      clear HV x0 x3 y0 y3 y4
                      generalize wr.drewN nq = W3 at *
                      cases lq
                      · go_wp2
                        go_roundw
                        case rel => exact ⟨b, e', hbi, by go_num, HV1.out.1.step HMD.out HPS.out.srt hab hbi (fun k k1 k2 => by rw [← HV1.out.1.rest k k1, ← HV1.out.1.rest a (Nat.le_refl _)]; exact HB.out.1 k k1 k2) HEND.out (Same.refl _ _ _) (fun u v u1 u2 u3 => by
                            have hu := HB.out.1 u u1 (by omega)
                            have hv := HB.out.1 v (by omega) u3
                            have hlu := HB.out.2 rfl u u1 (by omega)
                            have hlv := HB.out.2 rfl v (by omega) u3
                            rw [HV1.out.1.rest u u1, HV1.out.1.rest a (Nat.le_refl _)] at hu
                            rw [HV1.out.1.rest v (by omega), HV1.out.1.rest a (Nat.le_refl _)] at hv
                            rw [HV1.out.1.rest u u1] at hlu ⊢
                            rw [HV1.out.1.rest v (by omega)] at hlv ⊢
                            exact short_run (HMD.out u (by omega)) (HMD.out v (by omega)) (by rw [hu.2, hv.2]) hlu hlv (run_inc HMD.out HPS.out.srt u2 (by omega) (by rw [hu.1, hv.1]) (by rw [hu.2, hv.2]))), HV1.out.2⟩
                        case measure => simp [intOf]; omega
                      · have hT : ga ≠ T := ne_own HOA.out HTT.out HT0.out.ts
                        have hG : ga ≠ G := ne_own HOA.out HGG.out HT0.out.gs
                        have hO : ga ≠ O := ne_own HOA.out HOO.out HT0.out.os
                        have htr := HT0.out.grown HV1.out.2.2 (by simpa using Ne.symm HTT.out) (by simpa using Ne.symm HGG.out) (by simpa using Ne.symm HOO.out)
                        have hso := sortStable_any T G O i key _ (RK key) (ord_run key i (e' a).c (e' a).h) ga a i (b - a) (i - a) e' W3 hT hG hO htr HV1.out.2.1 (by omega) (by omega) (fun k k1 k2 => ⟨by rw [HV1.out.1.rest k k1]; exact HMD.out k (by omega), (HB.out.1 k k1 (by omega)).1, (HB.out.1 k k1 (by omega)).2⟩) (fun u v u1 u2 u3 => by
                            have hu := HB.out.1 u u1 (by omega)
                            have hv := HB.out.1 v (by omega) (by omega)
                            rw [HV1.out.1.rest u u1, HV1.out.1.rest a (Nat.le_refl _)] at hu
                            rw [HV1.out.1.rest v (by omega), HV1.out.1.rest a (Nat.le_refl _)] at hv
                            rw [HV1.out.1.rest u u1, HV1.out.1.rest v (by omega)]
                            exact run_inc HMD.out HPS.out.srt u2 (by omega) (by rw [hu.1, hv.1]) (by rw [hu.2, hv.2]))
                        have hmf : ∀ (fn : Fn) (first cap : Array Value) (w : World), (Instr.makeFunc fn first cap).run Ybgs.prog w = .ok (.func fn first cap) w := fun _ _ _ _ => rfl
                        rw [hA] at hso
                        unfold cmpV at hso
                        have HSO := Hid.mk' hso
                        clear hso hT hG hO htr
                        go_wp2_with (first | (go_at_call 8; refine HSO.out.mono ?_; rintro _ w1 ⟨rfl, ⟨e2, hrow2, hs2, ho2⟩, hg2⟩))
                        go_roundw
                        case rel =>
                          rw [show a + (b - a) = b from by omega] at hs2 ho2
                          (repeat apply Exists.intro)
                          exact ⟨⟨b, e2, hbi, by go_num, HV1.out.1.step HMD.out HPS.out.srt hab hbi (fun k k1 k2 => by rw [← HV1.out.1.rest k k1, ← HV1.out.1.rest a (Nat.le_refl _)]; exact HB.out.1 k k1 k2) HEND.out hs2 ho2, hrow2, grown_two HV1.out.2.2 HOA.out hg2⟩, rfl⟩
                        case measure => simp [intOf]; omega
                    · have e1 : ((cb' : Int) == (ca : Int)) = false := by simp; omega
                      clear hcc hgo
                      go_upto_region 34 with fail
                      go_quiet (fail)
                      have HV1 : Hid (Runs key i a e e' ∧ (wr.drewN nq).rowIs ga 41 (i * 5) (rc e') ∧ w.grownBy (wr.drewN nq) (some g)) := ⟨HV.out.1, row_stay HV.out.2.1 (grown_drewN (World.grownBy.refl _ none) nq) (by simp), grown_drewN HV.out.2.2 nq⟩
                      clear HV x0 x3 y0 y3 y4
                      generalize wr.drewN nq = W3 at *
                      cases lq
                      · go_wp2
                        go_roundw
                        case rel => exact ⟨b, e', hbi, by go_num, HV1.out.1.step HMD.out HPS.out.srt hab hbi (fun k k1 k2 => by rw [← HV1.out.1.rest k k1, ← HV1.out.1.rest a (Nat.le_refl _)]; exact HB.out.1 k k1 k2) HEND.out (Same.refl _ _ _) (fun u v u1 u2 u3 => by
                            have hu := HB.out.1 u u1 (by omega)
                            have hv := HB.out.1 v (by omega) u3
                            have hlu := HB.out.2 rfl u u1 (by omega)
                            have hlv := HB.out.2 rfl v (by omega) u3
                            rw [HV1.out.1.rest u u1, HV1.out.1.rest a (Nat.le_refl _)] at hu
                            rw [HV1.out.1.rest v (by omega), HV1.out.1.rest a (Nat.le_refl _)] at hv
                            rw [HV1.out.1.rest u u1] at hlu ⊢
                            rw [HV1.out.1.rest v (by omega)] at hlv ⊢
                            exact short_run (HMD.out u (by omega)) (HMD.out v (by omega)) (by rw [hu.2, hv.2]) hlu hlv (run_inc HMD.out HPS.out.srt u2 (by omega) (by rw [hu.1, hv.1]) (by rw [hu.2, hv.2]))), HV1.out.2⟩
                        case measure => simp [intOf]; omega
                      · have hT : ga ≠ T := ne_own HOA.out HTT.out HT0.out.ts
                        have hG : ga ≠ G := ne_own HOA.out HGG.out HT0.out.gs
                        have hO : ga ≠ O := ne_own HOA.out HOO.out HT0.out.os
                        have htr := HT0.out.grown HV1.out.2.2 (by simpa using Ne.symm HTT.out) (by simpa using Ne.symm HGG.out) (by simpa using Ne.symm HOO.out)
                        have hso := sortStable_any T G O i key _ (RK key) (ord_run key i (e' a).c (e' a).h) ga a i (b - a) (i - a) e' W3 hT hG hO htr HV1.out.2.1 (by omega) (by omega) (fun k k1 k2 => ⟨by rw [HV1.out.1.rest k k1]; exact HMD.out k (by omega), (HB.out.1 k k1 (by omega)).1, (HB.out.1 k k1 (by omega)).2⟩) (fun u v u1 u2 u3 => by
                            have hu := HB.out.1 u u1 (by omega)
                            have hv := HB.out.1 v (by omega) (by omega)
                            rw [HV1.out.1.rest u u1, HV1.out.1.rest a (Nat.le_refl _)] at hu
                            rw [HV1.out.1.rest v (by omega), HV1.out.1.rest a (Nat.le_refl _)] at hv
                            rw [HV1.out.1.rest u u1, HV1.out.1.rest v (by omega)]
                            exact run_inc HMD.out HPS.out.srt u2 (by omega) (by rw [hu.1, hv.1]) (by rw [hu.2, hv.2]))
                        have hmf : ∀ (fn : Fn) (first cap : Array Value) (w : World), (Instr.makeFunc fn first cap).run Ybgs.prog w = .ok (.func fn first cap) w := fun _ _ _ _ => rfl
                        rw [hA] at hso
                        unfold cmpV at hso
                        have HSO := Hid.mk' hso
                        clear hso hT hG hO htr
                        go_wp2_with (first | (go_at_call 8; refine HSO.out.mono ?_; rintro _ w1 ⟨rfl, ⟨e2, hrow2, hs2, ho2⟩, hg2⟩))
                        go_roundw
                        case rel =>
                          rw [show a + (b - a) = b from by omega] at hs2 ho2
                          (repeat apply Exists.intro)
                          exact ⟨⟨b, e2, hbi, by go_num, HV1.out.1.step HMD.out HPS.out.srt hab hbi (fun k k1 k2 => by rw [← HV1.out.1.rest k k1, ← HV1.out.1.rest a (Nat.le_refl _)]; exact HB.out.1 k k1 k2) HEND.out hs2 ho2, hrow2, grown_two HV1.out.2.2 HOA.out hg2⟩, rfl⟩
                        case measure => simp [intOf]; omega
                · have HEND : Hid (b < i → ¬ ((e b).c = (e a).c ∧ (e b).h = (e a).h)) := fun h => absurd h hbl
                  have hbn : decide ((b : Int) < (i : Int)) = false := by simp; omega
                  go_upto_region 34 with fail
                  go_quiet (fail)
                  have HV1 : Hid (Runs key i a e e' ∧ (wr.drewN nq).rowIs ga 41 (i * 5) (rc e') ∧ w.grownBy (wr.drewN nq) (some g)) := ⟨HV.out.1, row_stay HV.out.2.1 (grown_drewN (World.grownBy.refl _ none) nq) (by simp), grown_drewN HV.out.2.2 nq⟩
                  clear HV
                  generalize wr.drewN nq = W3 at *
                  cases lq
                  · go_wp2
                    go_roundw
                    case rel => exact ⟨b, e', hbi, by go_num, HV1.out.1.step HMD.out HPS.out.srt hab hbi (fun k k1 k2 => by rw [← HV1.out.1.rest k k1, ← HV1.out.1.rest a (Nat.le_refl _)]; exact HB.out.1 k k1 k2) HEND.out (Same.refl _ _ _) (fun u v u1 u2 u3 => by
                        have hu := HB.out.1 u u1 (by omega)
                        have hv := HB.out.1 v (by omega) u3
                        have hlu := HB.out.2 rfl u u1 (by omega)
                        have hlv := HB.out.2 rfl v (by omega) u3
                        rw [HV1.out.1.rest u u1, HV1.out.1.rest a (Nat.le_refl _)] at hu
                        rw [HV1.out.1.rest v (by omega), HV1.out.1.rest a (Nat.le_refl _)] at hv
                        rw [HV1.out.1.rest u u1] at hlu ⊢
                        rw [HV1.out.1.rest v (by omega)] at hlv ⊢
                        exact short_run (HMD.out u (by omega)) (HMD.out v (by omega)) (by rw [hu.2, hv.2]) hlu hlv (run_inc HMD.out HPS.out.srt u2 (by omega) (by rw [hu.1, hv.1]) (by rw [hu.2, hv.2]))), HV1.out.2⟩
                    case measure => simp [intOf]; omega
                  · have hT : ga ≠ T := ne_own HOA.out HTT.out HT0.out.ts
                    have hG : ga ≠ G := ne_own HOA.out HGG.out HT0.out.gs
                    have hO : ga ≠ O := ne_own HOA.out HOO.out HT0.out.os
                    have htr := HT0.out.grown HV1.out.2.2 (by simpa using Ne.symm HTT.out) (by simpa using Ne.symm HGG.out) (by simpa using Ne.symm HOO.out)
                    have hso := sortStable_any T G O i key _ (RK key) (ord_run key i (e' a).c (e' a).h) ga a i (b - a) (i - a) e' W3 hT hG hO htr HV1.out.2.1 (by omega) (by omega) (fun k k1 k2 => ⟨by rw [HV1.out.1.rest k k1]; exact HMD.out k (by omega), (HB.out.1 k k1 (by omega)).1, (HB.out.1 k k1 (by omega)).2⟩) (fun u v u1 u2 u3 => by
                        have hu := HB.out.1 u u1 (by omega)
                        have hv := HB.out.1 v (by omega) (by omega)
                        rw [HV1.out.1.rest u u1, HV1.out.1.rest a (Nat.le_refl _)] at hu
                        rw [HV1.out.1.rest v (by omega), HV1.out.1.rest a (Nat.le_refl _)] at hv
                        rw [HV1.out.1.rest u u1, HV1.out.1.rest v (by omega)]
                        exact run_inc HMD.out HPS.out.srt u2 (by omega) (by rw [hu.1, hv.1]) (by rw [hu.2, hv.2]))
                    have hmf : ∀ (fn : Fn) (first cap : Array Value) (w : World), (Instr.makeFunc fn first cap).run Ybgs.prog w = .ok (.func fn first cap) w := fun _ _ _ _ => rfl
                    rw [hA] at hso
                    unfold cmpV at hso
                    have HSO := Hid.mk' hso
                    clear hso hT hG hO htr
                    go_wp2_with (first | (go_at_call 8; refine HSO.out.mono ?_; rintro _ w1 ⟨rfl, ⟨e2, hrow2, hs2, ho2⟩, hg2⟩))
                    go_roundw
                    case rel =>
                      rw [show a + (b - a) = b from by omega] at hs2 ho2
                      (repeat apply Exists.intro)
                      exact ⟨⟨b, e2, hbi, by go_num, HV1.out.1.step HMD.out HPS.out.srt hab hbi (fun k k1 k2 => by rw [← HV1.out.1.rest k k1, ← HV1.out.1.rest a (Nat.le_refl _)]; exact HB.out.1 k k1 k2) HEND.out hs2 ho2, hrow2, grown_two HV1.out.2.2 HOA.out hg2⟩, rfl⟩
                    case measure => simp [intOf]; omega
            · obtain rfl : a = i := by omega
              go_wp2
              go_ret
              exact ⟨⟨ga, e', rfl, HV.out.2.1, HPS.out.same.trans HV.out.1.same, HV.out.1.srt⟩, HV.out.2.2⟩

end Go.Proofs.YbonekuxeGreat
