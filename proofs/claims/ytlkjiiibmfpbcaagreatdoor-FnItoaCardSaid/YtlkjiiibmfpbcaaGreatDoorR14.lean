/- Contracts: a row of words divided by a word; a number divided by a word. Conditions: the leading word is less than the divisor; what is read does not begin above what is written, or lies apart. -/
import Derived.Lib.AppendZerosOnto
import Derived.Test.YtlkjiiibmfpbcaaGreatDoorR13
import Derived.Test.YtlkjiiibmfpbcaaGreatDoorR05
namespace Go.Proofs.YtlkjiiibmfpbcaaGreatDoor
open Go
theorem div_step (N k y : Nat) (hy : 0 < y) (hy2 : y < 18446744073709551616) :
  N / BB ^ k / y = ((N / BB ^ (k + 1) % y) * 18446744073709551616 + dg N k) / y + BB * (N / BB ^ (k + 1) / y) ∧ N / BB ^ k % y = ((N / BB ^ (k + 1) % y) * 18446744073709551616 + dg N k) % y ∧
  ((N / BB ^ (k + 1) % y) * 18446744073709551616 + dg N k) / y < 18446744073709551616 := by
 have h1 := div_split N k
 have h2 := Nat.div_add_mod (N / BB ^ (k + 1)) y
 have h3 := Nat.mod_lt (N / BB ^ (k + 1)) hy
 have h4 := dg_lt' N k
 generalize N / BB ^ (k + 1) = T at *
 have h5 : N / BB ^ k = (T % y * 18446744073709551616 + dg N k) + y * (BB * (T / y)) := by
  rw [h1, Nat.mul_left_comm]
  have : BB * T = BB * (y * (T / y)) + BB * (T % y) := by rw [← Nat.mul_add, h2]
  rw [this, BB_eq]; omega
 refine ⟨?_, ?_, ?_⟩
 ·rw [h5, Nat.add_mul_div_left _ _ hy]
 ·rw [h5, Nat.add_mul_mod_self_left]
 ·rw [Nat.div_lt_iff_lt_mul hy]
  have : (T % y + 1) * 18446744073709551616 ≤ y * 18446744073709551616 := Nat.mul_le_mul_right _ h3
  rw [Nat.mul_comm 18446744073709551616 y]; omega
theorem c128 (z x : Sl) (X xn y : Nat) (w : World) (hz : Wt w z) (hx : Rd w x X) (lx : x.l = z.l) (h0 : x.l ≠ 0) (ox : OvUp z x) (hn : xn < y) (hy : y < 18446744073709551616) :
  Calls Tryz.prog 128 #[z.v, .int .u64 (xn : Int), x.v, .int .u64 (y : Int)] w (Vec w z fun c Z => Z = (X + BB ^ z.l * xn) / y ∧ c = (X + BB ^ z.l * xn) % y) := by
 have lm := hz.lm
 have hX : X < BB ^ z.l := by rw [← lx]; exact hx.lt
 have hNl : (X + BB ^ z.l * xn) / BB ^ z.l = xn := by rw [Nat.add_mul_div_left _ _ (BBpow_pos _), Nat.div_eq_of_lt hX, Nat.zero_add]
 have hdg : ∀ k, k < z.l → dg (X + BB ^ z.l * xn) k = dg X k := fun k hk => dg_add_lo _ _ _ _ hk
 have hfin : (X + BB ^ z.l * xn) / y < BB ^ z.l := by
  rw [Nat.div_lt_iff_lt_mul (by omega)]
  have : BB ^ z.l * (xn + 1) ≤ BB ^ z.l * y := Nat.mul_le_mul_left _ hn
  rw [Nat.mul_add, Nat.mul_one] at this; omega
 generalize X + BB ^ z.l * xn = N at *
 refine F128.call z.a z.l z.c xn x.a x.l x.c y w _ fun B => bc_intro (fun hb => ?_) (fun hb => ?_)
 ·have h1 : z.l = 1 := by have := eqE hb; omega
  obtain ⟨d1, d2, d3⟩ := div_step N 0 y (by omega) hy
  rw [show 0 + 1 = z.l by omega, hNl, Nat.mod_eq_of_lt hn, Nat.div_eq_of_lt hn, hdg 0 (by omega), Nat.pow_zero, Nat.div_one, Nat.mul_zero, Nat.add_zero] at d1
  rw [show 0 + 1 = z.l by omega, hNl, Nat.mod_eq_of_lt hn, hdg 0 (by omega), Nat.pow_zero, Nat.div_one] at d2
  rw [show 0 + 1 = z.l by omega, hNl, Nat.mod_eq_of_lt hn, hdg 0 (by omega)] at d3
  refine rdC (k := 0) (hx.at_ h0) rfl (by omega) (hx.sg 0 (by omega)) ((c159 xn (dg X 0) y hn (dg_lt' X 0) hy w).mono ?_)
  rintro e w1 ⟨rfl, hc⟩
  refine ⟨_, trivial, _, trivial, rfl, wtC (k := 0) (hc.wt hz) rfl (by omega) fun B2 => ret1 rfl rfl ⟨_, N / y, rfl, ⟨rfl, d2.symm⟩, hfin, ?_, ?_⟩⟩
  ·have := Sg.step (k := 0) (z := 0) (d := (xn * 18446744073709551616 + dg X 0) / y) (Sg.zero (w := w1) (b := z.b) (o := z.o)) (by simp) d3 rfl (hc.own (hz.pl (by omega))) ((hc.wr hz.wr) 0 (by omega)).1
   rw [Nat.pow_zero, Nat.one_mul, Nat.zero_add, Nat.zero_add] at this
   rw [h1, d1]; exact this
  ·exact (hc.none _).trans' (Chg.setCell (hc.own (hz.pl (by omega))) _ ⟨rfl, by omega, by omega⟩)
 ·refine (c160 y (by omega) hy w).mono ?_
  rintro e w1 ⟨rfl, hc⟩
  refine ⟨_, rfl, by unfold inI64; omega, fun B1 => ?_⟩
  rw [F128.q3]
  refine W_for (σ := Nat × Nat) (fun t => [(0, z.v), (2, x.v), (3, .int .u64 (y : Int)), (8, .int .u64 (t.2 : Int)), (11, .int .u64 (rcp y : Int)), (12, .int .i64 ((t.1 : Int) - 1))])
   (fun t wr => t.1 ≤ z.l ∧ t.2 = N / BB ^ t.1 % y ∧ Sg wr z.b (z.o + t.1) (z.l - t.1) (N / BB ^ t.1 / y) ∧ Chg w wr (inR z.b (z.o + t.1) (z.o + z.l)))
   (fun t => t.1) (z.l, xn) ⟨rfl, rfl, rfl, rfl, rfl, rfl, trivial⟩ ⟨Nat.le_refl _, by show xn = N / BB ^ z.l % y; rw [hNl, Nat.mod_eq_of_lt hn], by rw [Nat.sub_self]; exact Sg.zero, hc.none _⟩ ?_
  rintro ⟨k, r⟩ B wr ⟨hk, hr, hsg, hch⟩
  simp only at hk hr hsg hch
  refine F128.t2 z.a z.l z.c x.a x.l x.c y r (rcp y) ((k : Int) - 1) ⟨rfl, rfl, rfl, rfl, rfl, rfl, trivial⟩ fun B2 => bc_intro (fun hb => ?_) (fun hb B3 => ?_)
  ·obtain ⟨j, rfl⟩ : ∃ j, k = j + 1 := ⟨k - 1, by have := dT hb; omega⟩
   obtain ⟨d1, d2, d3⟩ := div_step N j y (by omega) hy
   rw [← hr, hdg j (by omega)] at d1 d2 d3
   have hry : r < y := by rw [hr]; exact Nat.mod_lt _ (by omega)
   have hni : ¬ inR z.b (z.o + (j + 1)) (z.o + z.l) x.b (x.o + j) := by
    rintro ⟨h1, h2, h3⟩; unfold OvUp at ox; omega
   refine rdC (k := j) (hx.at_ h0) (by omega) (by omega) (chgAt hch hx (by omega) hni) ((c161 r (dg X j) y hry (dg_lt' X j) hy wr).mono ?_)
   rintro e w2 ⟨rfl, hw⟩
   have hw := hw.symm
   subst hw
   have hzr := hch.wt hz
   have hp := hzr.pl (by omega)
   obtain ⟨u, hu⟩ := (hzr.wr j (by omega)).1
   refine ⟨_, trivial, _, trivial, rfl, wtC (k := j) hzr (by omega) (by omega) ⟨by unfold inI64; omega, fun B3 => ?_⟩⟩
   have hc1 : Chg wr (wr.setCell ⟨z.b, z.o + j, none⟩ (.int .u64 (((r * 18446744073709551616 + dg X j) / y : Nat) : Int))) (inR z.b (z.o + j) (z.o + j + 1)) := Chg.setCell hp _ ⟨rfl, by omega, by omega⟩
   have h1 : Sg (wr.setCell ⟨z.b, z.o + j, none⟩ (.int .u64 (((r * 18446744073709551616 + dg X j) / y : Nat) : Int))) z.b (z.o + j) 1 ((r * 18446744073709551616 + dg X j) / y) := by
    intro i hi
    have : i = 0 := by omega
    subst this
    rw [dg_self _ (by rw [BB_eq]; exact d3)]
    exact World.cell?_setCell_same _ _ _ hu
   have h3 := Sg.join h1 (hc1.sg hsg fun i hi hm => by have := hm.2.2; omega) (by rw [Nat.pow_one, BB_eq]; exact d3)
   rw [Nat.pow_one, ← d1] at h3
   refine ⟨(j, (r * 18446744073709551616 + dg X j) % y), ⟨rfl, rfl, rfl, rfl, rfl, intv (by omega), trivial⟩, rfl, ⟨by show j ≤ z.l; omega, d2.symm, h3.le (by show z.l - j ≤ _; omega), ?_⟩, by show j < j + 1; omega⟩
   exact (hch.mono fun b i _ hm => ⟨hm.1, by have := hm.2.1; omega, hm.2.2⟩).trans' (hc1.mono fun b i _ hm => ⟨hm.1, hm.2.1, by have := hm.2.2; omega⟩)
  ·have hk0 : k = 0 := by have := dF hb; omega
   subst hk0
   rw [Nat.pow_zero, Nat.div_one] at hr hsg
   exact F128.t1 r ⟨rfl, trivial⟩ fun B4 B5 => ret1 rfl rfl ⟨r, N / y, rfl, ⟨rfl, hr⟩, hfin, hsg, hch⟩
def DivW (w : World) (z : Sl) (X y : Nat) (v : Value) (w' : World) : Prop := ∃ r : Sl, v = .tuple #[r.v, .int .u64 ((X % y : Nat) : Int)] ∧ Nz w' r (X / y) ∧ From w z r ∧ Chg w w' (fp z)
theorem c93 (z x : Sl) (X y : Nat) (w : World) (hz : St w z) (hx : Nz w x X) (sx : Sep z x) (hl : Len x) (h0 : y ≠ 0) (hy : y < 18446744073709551616) :
  Calls Tryz.prog 93 #[z.v, x.v, .int .u64 (y : Int)] w fun e w' => ∃ v, e = .returned v ∧ DivW w z X y v w' := by
 have hl' := hl
 unfold Len at hl'
 refine F93.call z.a z.l z.c x.a x.l x.c y w _ fun B => bc_false (eqF (by omega)) (bc_intro (fun hb => ?_) (fun hb => bc_intro (fun hb' => ?_) (fun hb' B1 => ?_)))
 ·have h1 : y = 1 := by have := eqE hb; omega
  subst h1
  exact ResE.pass (c60 z x X w hz hx hl) fun r w' h1 h2 h3 => ⟨_, _, _, rfl, fun B2 => ret2 rfl rfl rfl ⟨r, by rw [Nat.mod_one]; rfl, by rw [Nat.div_one]; exact h1, h2, h3⟩⟩
 ·have hX : X = 0 := Nz.zero hx.toNt (by have := eqE hb'; omega)
  subst hX
  exact ⟨0, rfl, Nat.zero_le _, fun B2 => ret2 rfl rfl rfl ⟨z.to 0, by rw [Nat.zero_mod]; rfl, by rw [Nat.zero_div]; exact nz_zero hz, From.self w z 0, Chg.refl _ _⟩⟩
 ·have hx0 : x.l ≠ 0 := by have := eqN hb'; omega
  refine F93.t1 z.a z.l z.c x.a x.l x.c y x.l ⟨rfl, rfl, rfl, rfl, trivial⟩ fun B2 => (c73 z x.l w hz (by omega)).mono ?_
  rintro e w1 ⟨_, rfl, r, rfl, hrl, hr, hf, hc⟩
  have hrc := hr.lc
  have hx1 := hc.nz_none hx
  refine ⟨_, _, _, rfl, Vec.pass (c128 r x X 0 y w1 hr.wt hx1.toNt.rd hrl.symm hx0 ?_ (by omega) hy) ?_⟩
  ·unfold OvUp
   have := hx.toNt.blk (by omega)
   rcases hf with ⟨_, e2, e3, e4⟩ | hf
   ·unfold Sep at sx; omega
   ·omega
  ·rintro c Z w2 ⟨t1, t2⟩ hZ hsg hch
   rw [Nat.mul_zero, Nat.add_zero] at t1 t2
   subst t1; subst t2
   refine ⟨_, rfl, normR (w := w) (z := z) (r := r) (V := X / y) { hch.st hr with sg := hsg, lt := hZ } hf (hf.chg (hc.none _) hch (Nat.le_refl _) (by omega)) fun k hres => ?_⟩
   obtain ⟨r', e1, e2, e3, e4⟩ := hres
   exact ⟨_, _, _, rfl, fun B3 => ret2 rfl e1 rfl ⟨r', rfl, e2, e3, e4⟩⟩
end Go.Proofs.YtlkjiiibmfpbcaaGreatDoor
namespace Go.Proofs.YtlkjiiibmfpbcaaGreatDoor
open Go
set_option maxRecDepth 100000
set_option linter.unusedVariables false
namespace F56
noncomputable def body : Code := bodyOf Tryz.f56
def kt : List (Nat × List Nat) := []
abbrev l0 : List (Nat × Value) := []
def v0 : VP := fun B ds w K => Kd K .ret [eP 0 (some ⟨(World.heap w).size,0,none⟩)] ds (World.alloc w (.cells #[(.pointer none)] 126))
theorem t0 : VZ 3 body l0 v0 := tz kt [0] fun B ds w K => by kernel_rfl
theorem call : VCl 56 [.tmp 0] #[] v0 := cz Tryz.func56 (by kernel_rfl) Tryz.ntmps56 Tryz.results56 (by kernel_rfl) (t0 )
end F56
namespace F57
noncomputable def body : Code := bodyOf Tryz.f57
def kt : List (Nat × List Nat) := []
variable (D0 : Option Addr)
abbrev l0 : List (Nat × Value) := [eP 0 D0]
def v0 : VP := fun B ds w K => nc D0 fun b1 o2 => ∃ x3,w.cell? ⟨b1,o2 + 0,none⟩ = some (.pointer x3) ∧ ∃ q4,ptrEq w x3 none q4 ∧ bc (!q4) (Cl 89 #[(.pointer x3)] w fun r5 w6 => r5 = .returned undef ∧ Kd K .normal [] ds w6) (Kd K .normal [] ds w)
theorem t0 : VZ 11 body (l0 D0) (v0 D0) := tz kt [] fun B ds w K => by kernel_rfl
theorem call : VCl 57 [] #[.pointer D0] (v0 D0) := cz Tryz.func57 (by kernel_rfl) Tryz.ntmps57 Tryz.results57 (by kernel_rfl) (t0 D0)
end F57
namespace F89
noncomputable def body : Code := bodyOf Tryz.f89
def kt : List (Nat × List Nat) := []
variable (D0 : Option Addr)
abbrev l0 : List (Nat × Value) := [eP 0 D0]
def v0 : VP := fun B ds w K => nc D0 fun b1 o2 => ∃ x3a,∃ x3l,∃ x3c,w.cell? ⟨b1,o2 + 0,none⟩ = some (.slice x3a x3l x3c) ∧ ∃ h5 : Nat,0 = (h5:Int) ∧ h5 ≤ x3c ∧ nc D0 fun b7 o8 => (∃ u9,w.cell? ⟨b7,o8 + 0,none⟩ = some u9) ∧ w.frozen? ⟨b7,o8 + 0,none⟩ = false ∧ Kd K .normal [] ds (w.setCell ⟨b7,o8 + 0,none⟩ (.slice x3a h5 x3c))
theorem t0 : VZ 10 body (l0 D0) (v0 D0) := tz kt [] fun B ds w K => by kernel_rfl
theorem call : VCl 89 [] #[.pointer D0] (v0 D0) := cz Tryz.func89 (by kernel_rfl) Tryz.ntmps89 Tryz.results89 (by kernel_rfl) (t0 D0)
end F89
namespace F102
noncomputable def body : Code := bodyOf Tryz.f102
def kt : List (Nat × List Nat) := []
variable (D0 : Option Addr) (I1 : Int)
abbrev l0 : List (Nat × Value) := [eP 0 D0,eI 1 I1]
def v0 : VP := fun B ds w K => nc D0 fun b1 o2 => ∃ x3,w.cell? ⟨b1,o2 + 0,none⟩ = some (.pointer x3) ∧ ∃ q4,ptrEq w x3 none q4 ∧ bc q4 (Kd K .ret [] ds w) (Cl 140 #[(.pointer x3),(.int .i64 I1)] w fun r6 w7 => r6 = .returned undef ∧ Kd K .normal [] ds w7)
theorem t0 : VZ 14 body (l0 D0 I1) (v0 D0 I1) := tz kt [] fun B ds w K => by kernel_rfl
theorem call : VCl 102 [] #[.pointer D0, .int .i64 I1] (v0 D0 I1) := cz Tryz.func102 (by kernel_rfl) Tryz.ntmps102 Tryz.results102 (by kernel_rfl) (t0 D0 I1)
end F102
namespace F103
noncomputable def body : Code := bodyOf Tryz.f103
def kt : List (Nat × List Nat) := []
variable (D0 : Option Addr)
abbrev l0 : List (Nat × Value) := [eP 0 D0]
def v0 : VP := fun B ds w K => nc D0 fun b1 o2 => ∃ x3,w.cell? ⟨b1,o2 + 0,none⟩ = some (.pointer x3) ∧ ∃ q4,ptrEq w x3 none q4 ∧ bc q4 (Kd K .ret [eI 2 0] ds w) (Cl 141 #[(.pointer x3)] w fun r6 w7 => ∃ x8,r6 = .returned (.int .i64 x8) ∧ Kd K .ret [eI 2 x8] ds w7)
theorem t0 : VZ 12 body (l0 D0) (v0 D0) := tz kt [2] fun B ds w K => by kernel_rfl
theorem call : VCl 103 [.tmp 2] #[.pointer D0] (v0 D0) := cz Tryz.func103 (by kernel_rfl) Tryz.ntmps103 Tryz.results103 (by kernel_rfl) (t0 D0)
end F103
namespace F104
noncomputable def body : Code := bodyOf Tryz.f104
def kt : List (Nat × List Nat) := [(8,[6]),(9,[0,1]),(11,[1,5])]
noncomputable def p1 : Code := sb 6 53 body
noncomputable def p2 : Code := sb 3 7 body
noncomputable def p3 : Code := sb 11 1687 body
variable (D0 A6 : Option Addr) (I1 : Int) (N6 : Nat) (D5 : Option Addr) (C6 : Nat)
abbrev l0 : List (Nat × Value) := [eP 0 D0,eI 1 I1]
def v0 : VP := fun B ds w K => nc D0 fun b1 o2 => ∃ x3,w.cell? ⟨b1,o2 + 0,none⟩ = some (.pointer x3) ∧ ∃ q4,ptrEq w x3 none q4 ∧ bc q4 (bc (decide (I1 ≤ (4:Int))) (Cl 142 #[(.slice none 0 0),(.int .i64 I1)] w fun r5 w6 => ∃ x7a,∃ x7l,∃ x7c,r5 = .returned (.slice x7a x7l x7c) ∧ ∃ h9 : Nat,I1 = (h9:Int) ∧ h9 ≤ x7c ∧ bc (decide (I1 > (0:Int))) (nc x7a fun b12 o13 => ∃ k11 : Nat,0 = (k11:Int) ∧ k11 < h9 ∧ (∃ u14,w6.cell? ⟨b12,o13 + k11,none⟩ = some u14) ∧ w6.frozen? ⟨b12,o13 + k11,none⟩ = false ∧ Wd 33 p3 [eS 6 x7a h9 x7c] ds (w6.setCell ⟨b12,o13 + k11,none⟩ (.int .u64 11259375)) (thenW Tryz.prog 33 p1 (thenW Tryz.prog 33 p2 K))) (Wd 33 p3 [eS 6 x7a h9 x7c] ds w6 (thenW Tryz.prog 33 p1 (thenW Tryz.prog 33 p2 K)))) (Wd 33 p1 [eP 0 D0,eI 1 I1] ds w (thenW Tryz.prog 33 p2 K))) (Wd 33 p2 [eI 1 I1,eP 5 x3] ds w K)
theorem t0 : VZ 33 body (l0 D0 I1) (v0 D0 I1) := tz kt [4] fun B ds w K => by kernel_rfl
theorem call : VCl 104 [.tmp 4] #[.pointer D0, .int .i64 I1] (v0 D0 I1) := cz Tryz.func104 (by kernel_rfl) Tryz.ntmps104 Tryz.results104 (by kernel_rfl) (t0 D0 I1)
abbrev l1 : List (Nat × Value) := [eP 0 D0,eI 1 I1]
def v1 : VP := fun B ds w K => nc D0 fun b1 o2 => (∃ u3,World.cell? (World.alloc w (.cells #[(Value.slice none 0 0)] 162)) ⟨b1,o2 + 0,none⟩ = some u3) ∧ World.frozen? (World.alloc w (.cells #[(Value.slice none 0 0)] 162)) ⟨b1,o2 + 0,none⟩ = false ∧ Kd K .normal [eI 1 I1,eP 5 (some ⟨(World.heap w).size,0,none⟩)] ds (World.setCell (World.alloc w (.cells #[(Value.slice none 0 0)] 162)) ⟨b1,o2 + 0,none⟩ (.pointer (some ⟨(World.heap w).size,0,none⟩)))
theorem t1 : VT 33 p1 (l1 D0 I1) (v1 D0 I1) := tw kt [1,5] fun B ds w K => by kernel_rfl
abbrev l2 : List (Nat × Value) := [eI 1 I1,eP 5 D5]
def v2 : VP := fun B ds w K => Cl 143 #[(.pointer D5),(.int .i64 I1)] w fun r1 w2 => ∃ x3a,∃ x3l,∃ x3c,r1 = .returned (.slice x3a x3l x3c) ∧ Kd K .ret [eS 4 x3a x3l x3c] ds w2
theorem t2 : VT 33 p2 (l2 I1 D5) (v2 I1 D5) := tw kt [4] fun B ds w K => by kernel_rfl
abbrev l3 : List (Nat × Value) := [eS 6 A6 N6 C6]
def v3 : VP := fun B ds w K => Kd K .ret [eS 4 A6 N6 C6] ds w
theorem t3 : VT 33 p3 (l3 A6 N6 C6) (v3 A6 N6 C6) := tw kt [4] fun B ds w K => by kernel_rfl
end F104
namespace F140
noncomputable def body : Code := bodyOf Tryz.f140
def kt : List (Nat × List Nat) := []
variable (D0 : Option Addr) (I1 : Int)
abbrev l0 : List (Nat × Value) := [eP 0 D0,eI 1 I1]
def v0 : VP := fun B ds w K => nc D0 fun b1 o2 => ∃ x3a,∃ x3l,∃ x3c,w.cell? ⟨b1,o2 + 0,none⟩ = some (.slice x3a x3l x3c) ∧ ∃ h5 : Nat,I1 = (h5:Int) ∧ h5 ≤ x3c ∧ nc D0 fun b7 o8 => (∃ u9,w.cell? ⟨b7,o8 + 0,none⟩ = some u9) ∧ w.frozen? ⟨b7,o8 + 0,none⟩ = false ∧ Kd K .normal [] ds (w.setCell ⟨b7,o8 + 0,none⟩ (.slice x3a h5 x3c))
theorem t0 : VZ 13 body (l0 D0 I1) (v0 D0 I1) := tz kt [] fun B ds w K => by kernel_rfl
theorem call : VCl 140 [] #[.pointer D0, .int .i64 I1] (v0 D0 I1) := cz Tryz.func140 (by kernel_rfl) Tryz.ntmps140 Tryz.results140 (by kernel_rfl) (t0 D0 I1)
end F140
namespace F141
noncomputable def body : Code := bodyOf Tryz.f141
def kt : List (Nat × List Nat) := []
variable (D0 : Option Addr)
abbrev l0 : List (Nat × Value) := [eP 0 D0]
def v0 : VP := fun B ds w K => nc D0 fun b1 o2 => ∃ x3a,∃ x3l,∃ x3c,w.cell? ⟨b1,o2 + 0,none⟩ = some (.slice x3a x3l x3c) ∧ Kd K .ret [eI 2 (x3l:Int)] ds w
theorem t0 : VZ 8 body (l0 D0) (v0 D0) := tz kt [2] fun B ds w K => by kernel_rfl
theorem call : VCl 141 [.tmp 2] #[.pointer D0] (v0 D0) := cz Tryz.func141 (by kernel_rfl) Tryz.ntmps141 Tryz.results141 (by kernel_rfl) (t0 D0)
end F141
namespace F142
noncomputable def body : Code := bodyOf Tryz.f142
def kt : List (Nat × List Nat) := [(3,[0,1]),(6,[0])]
noncomputable def p1 : Code := sb 2 3 body
noncomputable def p2 : Code := sb 3 7 body
variable (A0 : Option Addr) (N0 C0 : Nat) (I1 : Int)
abbrev l0 : List (Nat × Value) := [eS 0 A0 N0 C0,eI 1 I1]
def v0 : VP := fun B ds w K => bc (decide (I1 < (0:Int))) False (Wd 27 p1 [eS 0 A0 N0 C0,eI 1 I1] ds w K)
theorem t0 : VZ 27 body (l0 A0 N0 C0 I1) (v0 A0 N0 C0 I1) := tz kt [4] fun B ds w K => by kernel_rfl
theorem call : VCl 142 [.tmp 4] #[.slice A0 N0 C0, .int .i64 I1] (v0 A0 N0 C0 I1) := cz Tryz.func142 (by kernel_rfl) Tryz.ntmps142 Tryz.results142 (by kernel_rfl) (t0 A0 N0 C0 I1)
abbrev l1 : List (Nat × Value) := [eS 0 A0 N0 C0,eI 1 I1]
def v1 : VP := fun B ds w K => inI64 ((C0:Int) - (N0:Int)) ∧ inI64 (I1 - ((C0:Int) - (N0:Int))) ∧ bc (decide ((I1 - ((C0:Int) - (N0:Int))) > (0:Int))) (∃ h2 : Nat,(C0:Int) = (h2:Int) ∧ h2 ≤ C0 ∧ ∃ w4,∃ x5a,∃ x5l,∃ x5c,Sem.run Tryz.prog (builtin .append #[45,3] 45 #[false,false] #[(.slice A0 h2 C0),(.int .i64 (I1 - ((C0:Int) - (N0:Int))))]) w = .ok (.value (.slice x5a x5l x5c)) w4 ∧ ∃ h7 : Nat,(N0:Int) = (h7:Int) ∧ h7 ≤ x5c ∧ Wd 27 p2 [eS 0 x5a h7 x5c] ds w4 K) (Wd 27 p2 [eS 0 A0 N0 C0] ds w K)
theorem t1 : VT 27 p1 (l1 A0 N0 C0 I1) (v1 A0 N0 C0 I1) := tw kt [4] fun B ds w K => by kernel_rfl
abbrev l2 : List (Nat × Value) := [eS 0 A0 N0 C0]
def v2 : VP := fun B ds w K => Kd K .ret [eS 4 A0 N0 C0] ds w
theorem t2 : VT 27 p2 (l2 A0 N0 C0) (v2 A0 N0 C0) := tw kt [4] fun B ds w K => by kernel_rfl
end F142
namespace F143
noncomputable def body : Code := bodyOf Tryz.f143
def kt : List (Nat × List Nat) := [(8,[7])]
noncomputable def p1 : Code := sb 7 127 body
variable (D0 A7 : Option Addr) (I1 : Int) (N7 C7 : Nat)
abbrev l0 : List (Nat × Value) := [eP 0 D0,eI 1 I1]
def v0 : VP := fun B ds w K => inI64 (I1 + 3) ∧ nc D0 fun b1 o2 => ∃ x3a,∃ x3l,∃ x3c,w.cell? ⟨b1,o2 + 0,none⟩ = some (.slice x3a x3l x3c) ∧ nc D0 fun b4 o5 => ∃ x6a,∃ x6l,∃ x6c,w.cell? ⟨b4,o5 + 0,none⟩ = some (.slice x6a x6l x6c) ∧ Cl 164 #[(.slice x6a x6l x6c),(.int .i64 (iAndNot .i64 (I1 + 3) 3))] w fun r7 w8 => ∃ x9a,∃ x9l,∃ x9c,r7 = .returned (.slice x9a x9l x9c) ∧ nc D0 fun b10 o11 => (∃ u12,w8.cell? ⟨b10,o11 + 0,none⟩ = some u12) ∧ w8.frozen? ⟨b10,o11 + 0,none⟩ = false ∧ nc D0 fun b13 o14 => ∃ x15a,∃ x15l,∃ x15c,World.cell? (w8.setCell ⟨b10,o11 + 0,none⟩ (.slice x9a x9l x9c)) ⟨b13,o14 + 0,none⟩ = some (.slice x15a x15l x15c) ∧ inI64 ((x3l:Int) + (iAndNot .i64 (I1 + 3) 3)) ∧ ∃ h17 : Nat,((x3l:Int) + (iAndNot .i64 (I1 + 3) 3)) = (h17:Int) ∧ h17 ≤ x15c ∧ nc D0 fun b19 o20 => (∃ u21,World.cell? (w8.setCell ⟨b10,o11 + 0,none⟩ (.slice x9a x9l x9c)) ⟨b19,o20 + 0,none⟩ = some u21) ∧ World.frozen? (w8.setCell ⟨b10,o11 + 0,none⟩ (.slice x9a x9l x9c)) ⟨b19,o20 + 0,none⟩ = false ∧ nc D0 fun b22 o23 => ∃ x24a,∃ x24l,∃ x24c,World.cell? (World.setCell (w8.setCell ⟨b10,o11 + 0,none⟩ (.slice x9a x9l x9c)) ⟨b19,o20 + 0,none⟩ (.slice x15a h17 x15c)) ⟨b22,o23 + 0,none⟩ = some (.slice x24a x24l x24c) ∧ inI64 ((x3l:Int) + I1) ∧ inI64 ((x3l:Int) + I1) ∧ ∃ i25 h26 m27 : Nat,(x3l:Int) = (i25:Int) ∧ ((x3l:Int) + I1) = (h26:Int) ∧ ((x3l:Int) + I1) = (m27:Int) ∧ i25 ≤ h26 ∧ h26 ≤ m27 ∧ m27 ≤ x24c ∧ bc (decide (I1 > (0:Int))) (nc (shifted x24a i25 m27 1) fun b29 o30 => ∃ k28 : Nat,0 = (k28:Int) ∧ k28 < (h26 - i25) ∧ (∃ u31,World.cell? (World.setCell (w8.setCell ⟨b10,o11 + 0,none⟩ (.slice x9a x9l x9c)) ⟨b19,o20 + 0,none⟩ (.slice x15a h17 x15c)) ⟨b29,o30 + k28,none⟩ = some u31) ∧ World.frozen? (World.setCell (w8.setCell ⟨b10,o11 + 0,none⟩ (.slice x9a x9l x9c)) ⟨b19,o20 + 0,none⟩ (.slice x15a h17 x15c)) ⟨b29,o30 + k28,none⟩ = false ∧ Wd 53 p1 [eS 7 (shifted x24a i25 m27 1) (h26 - i25) (m27 - i25)] ds (World.setCell (World.setCell (w8.setCell ⟨b10,o11 + 0,none⟩ (.slice x9a x9l x9c)) ⟨b19,o20 + 0,none⟩ (.slice x15a h17 x15c)) ⟨b29,o30 + k28,none⟩ (.int .u64 1043915)) K) (Wd 53 p1 [eS 7 (shifted x24a i25 m27 1) (h26 - i25) (m27 - i25)] ds (World.setCell (w8.setCell ⟨b10,o11 + 0,none⟩ (.slice x9a x9l x9c)) ⟨b19,o20 + 0,none⟩ (.slice x15a h17 x15c)) K)
theorem t0 : VZ 53 body (l0 D0 I1) (v0 D0 I1) := tz kt [4] fun B ds w K => by kernel_rfl
theorem call : VCl 143 [.tmp 4] #[.pointer D0, .int .i64 I1] (v0 D0 I1) := cz Tryz.func143 (by kernel_rfl) Tryz.ntmps143 Tryz.results143 (by kernel_rfl) (t0 D0 I1)
abbrev l1 : List (Nat × Value) := [eS 7 A7 N7 C7]
def v1 : VP := fun B ds w K => Kd K .ret [eS 4 A7 N7 C7] ds w
theorem t1 : VT 53 p1 (l1 A7 N7 C7) (v1 A7 N7 C7) := tw kt [4] fun B ds w K => by kernel_rfl
end F143
namespace F164
noncomputable def body : Code := bodyOf Tryz.f164
def kt : List (Nat × List Nat) := [(3,[0,1]),(6,[0])]
noncomputable def p1 : Code := sb 2 3 body
noncomputable def p2 : Code := sb 3 7 body
variable (A0 : Option Addr) (N0 C0 : Nat) (I1 : Int)
abbrev l0 : List (Nat × Value) := [eS 0 A0 N0 C0,eI 1 I1]
def v0 : VP := fun B ds w K => bc (decide (I1 < (0:Int))) False (Wd 27 p1 [eS 0 A0 N0 C0,eI 1 I1] ds w K)
theorem t0 : VZ 27 body (l0 A0 N0 C0 I1) (v0 A0 N0 C0 I1) := tz kt [4] fun B ds w K => by kernel_rfl
theorem call : VCl 164 [.tmp 4] #[.slice A0 N0 C0, .int .i64 I1] (v0 A0 N0 C0 I1) := cz Tryz.func164 (by kernel_rfl) Tryz.ntmps164 Tryz.results164 (by kernel_rfl) (t0 A0 N0 C0 I1)
abbrev l1 : List (Nat × Value) := [eS 0 A0 N0 C0,eI 1 I1]
def v1 : VP := fun B ds w K => inI64 ((C0:Int) - (N0:Int)) ∧ inI64 (I1 - ((C0:Int) - (N0:Int))) ∧ bc (decide ((I1 - ((C0:Int) - (N0:Int))) > (0:Int))) (∃ h2 : Nat,(C0:Int) = (h2:Int) ∧ h2 ≤ C0 ∧ ∃ w4,∃ x5a,∃ x5l,∃ x5c,Sem.run Tryz.prog (builtin .append #[44,3] 44 #[false,false] #[(.slice A0 h2 C0),(.int .i64 (I1 - ((C0:Int) - (N0:Int))))]) w = .ok (.value (.slice x5a x5l x5c)) w4 ∧ ∃ h7 : Nat,(N0:Int) = (h7:Int) ∧ h7 ≤ x5c ∧ Wd 27 p2 [eS 0 x5a h7 x5c] ds w4 K) (Wd 27 p2 [eS 0 A0 N0 C0] ds w K)
theorem t1 : VT 27 p1 (l1 A0 N0 C0 I1) (v1 A0 N0 C0 I1) := tw kt [4] fun B ds w K => by kernel_rfl
abbrev l2 : List (Nat × Value) := [eS 0 A0 N0 C0]
def v2 : VP := fun B ds w K => Kd K .ret [eS 4 A0 N0 C0] ds w
theorem t2 : VT 27 p2 (l2 A0 N0 C0) (v2 A0 N0 C0) := tw kt [4] fun B ds w K => by kernel_rfl
end F164
namespace F43
noncomputable def body : Code := bodyOf Tryz.f43
def kt : List (Nat × List Nat) := []
variable (A0 : Option Addr) (N0 C0 : Nat)
abbrev l0 : List (Nat × Value) := [eS 0 A0 N0 C0]
def v0 : VP := fun B ds w K => bc (Option.isNone A0) (Kd K .ret [eS 2 none 0 0] ds w) (∃ w2,∃ x3a,∃ x3l,∃ x3c,Sem.run Tryz.prog (Instr.buildSlice 22 0 #[]) w = .ok (.slice x3a x3l x3c) w2 ∧ ∃ w4,∃ x5a,∃ x5l,∃ x5c,Sem.run Tryz.prog (builtin .append #[22,22] 22 #[false,false] #[(.slice x3a x3l x3c),(.slice A0 N0 C0)]) w2 = .ok (.value (.slice x5a x5l x5c)) w4 ∧ Kd K .ret [eS 2 x5a x5l x5c] ds w4)
theorem t0 : VZ 8 body (l0 A0 N0 C0) (v0 A0 N0 C0) := tz kt [2] fun B ds w K => by kernel_rfl
theorem call : VCl 43 [.tmp 2] #[.slice A0 N0 C0] (v0 A0 N0 C0) := cz Tryz.func43 (by kernel_rfl) Tryz.ntmps43 Tryz.results43 (by kernel_rfl) (t0 A0 N0 C0)
end F43
end Go.Proofs.YtlkjiiibmfpbcaaGreatDoor
namespace Go.Proofs.YtlkjiiibmfpbcaaGreatDoor
open Go
theorem round4 (n : Nat) (h : n ≤ 4398046511104) : iAndNot .i64 ((n : Int) + 3) 3 = (((n + 3) / 4 * 4 : Nat) : Int) := by
 unfold iAndNot
 have h1 : (BitVec.ofInt (IntKind.bits .i64) ((n : Int) + 3) &&& ~~~BitVec.ofInt (IntKind.bits .i64) 3).toNat = (n + 3) / 4 * 4 := by
  show (BitVec.ofInt 64 ((n : Int) + 3) &&& ~~~BitVec.ofInt 64 3).toNat = _
  rw [BitVec.toNat_and, show ((n : Int) + 3) = ((n + 3 : Nat) : Int) by omega, ofInt_nat 64 (n + 3) (by omega), show (~~~BitVec.ofInt 64 3).toNat = (2 ^ 62 - 1) * 2 ^ 2 by decide]
  refine Nat.eq_of_testBit_eq fun i => ?_
  rw [show (n + 3) / 4 * 4 = (n + 3) / 2 ^ 2 * 2 ^ 2 from rfl, Nat.testBit_and, Nat.testBit_mul_two_pow, Nat.testBit_mul_two_pow, Nat.testBit_div_two_pow, Nat.testBit_two_pow_sub_one]
  by_cases hi : 2 ≤ i
  ·rw [show i - 2 + 2 = i by omega]
   by_cases h64 : i < 64
   ·have : i - 2 < 62 := by omega
    simp [hi, this]
   ·have : (n + 3).testBit i = false := Nat.testBit_lt_two_pow (Nat.lt_of_lt_of_le (show n + 3 < 2 ^ 64 by omega) (Nat.pow_le_pow_right (by omega) (by omega)))
    simp [this]
  ·simp [hi]
 rw [h1, wrapIN _ (by omega)]
theorem growBy_le (n : Nat) : ∀ (r c : Nat), Builtin.growBy n r c ≤ max c (2 * n + 768)
 | 0, c => Nat.le_max_left _ _
 | r + 1, c => by
  unfold Builtin.growBy
  split
  ·exact Nat.le_max_left _ _
  ·have := growBy_le n r (c + (c + 768) / 4)
   omega
theorem nextcap_le (need old : Nat) (h : old < need) : Builtin.nextslicecap need old ≤ 2 * need + 768 := by
 unfold Builtin.nextslicecap
 split
 ·omega
 ·split
  ·omega
  ·have := growBy_le need 4 old; omega
theorem exists_cells {w : World} {b : Nat} : ∀ (n o : Nat), (∀ i, i < n → ∃ u, w.cell? ⟨b, o + i, none⟩ = some u) → ∃ l : List Value, l.length = n ∧ ∀ j v, l[j]? = some v → w.cell? ⟨b, o + j, none⟩ = some v
 | 0, o, _ => ⟨[], rfl, by simp⟩
 | n + 1, o, h => by
  obtain ⟨u, hu⟩ := h 0 (by omega)
  obtain ⟨l, hl, hr⟩ := exists_cells n (o + 1) (fun i hi => by have := h (i + 1) (by omega); rwa [show o + (i + 1) = o + 1 + i by omega] at this)
  refine ⟨u :: l, by simp [hl], fun j v hj => ?_⟩
  cases j with
  | zero => simp at hj; subst hj; exact hu
  | succ j => simp at hj; have := hr j v hj; rwa [show o + (j + 1) = o + 1 + j by omega]
theorem alloc_row_st (w : World) (hg : GB ≤ w.heap.size) (C : Array Value) (n : Nat) (hn : n ≤ C.size) (hc : C.size ≤ 9223372036854775807) :
  St (w.alloc (.cells C 61)) ⟨some ⟨w.heap.size, 0, none⟩, n, C.size, w.heap.size, 0⟩ := by
 have hh : (w.alloc (.cells C 61)).heap[w.heap.size]? = some (.cells C 61 (0, 0)) := heap_alloc_new ..
 refine ⟨hn, fun _ => rfl, fun i hi => ⟨?_, ?_⟩, fun _ => ⟨hg, _, _, hh⟩, hc, by simp; omega⟩
 ·have hi' : i < C.size := hi
  refine ⟨C[i], ?_⟩
  rw [cell_eq, hh]
  simp [hi']
 ·rw [frozen_eq, hh]; simp
theorem zeroCells_size (n : Nat) : (Builtin.zeroCells #[(.int .u64 0 : Value)] n).size = n := by simp [Builtin.zeroCells]
def GrowR (w : World) (s : Sl) (n : Nat) (v : Value) (w' : World) : Prop :=
 ∃ r : Sl, v = r.v ∧ r.l = s.l ∧ s.l + n ≤ r.c ∧ St w' r ∧ (r = s ∨ (w.heap.size ≤ r.b ∧ r.c ≠ 0)) ∧ Chg w w' none2
theorem grow_run (t : TypeId) (ht : Tryz.prog.underlying t = some (.slice 61)) (s : Sl) (k : Nat) (w : World) (hs : St w s) (h0 : 0 < k) (hk : s.c + k ≤ 8796093022208) :
  ∃ c w', Sem.run Tryz.prog (builtin .append #[t, 3] t #[false, false] #[.slice s.a s.c s.c, .int .i64 (k : Int)]) w = .ok (.value (.slice (some ⟨w.heap.size, 0, none⟩) (s.c + k) c)) w' ∧
   s.c + k ≤ c ∧ (∀ n, n ≤ c → St w' ⟨some ⟨w.heap.size, 0, none⟩, n, c, w.heap.size, 0⟩) ∧ Chg w w' none2 := by
 have hinfo := info61z
 cases hi : Tryz.prog.info? 61 with
 | none => rw [hi] at hinfo; simp at hinfo
 | some ie =>
  rw [hi] at hinfo
  simp only [Option.map_some, Option.some.injEq, Prod.mk.injEq] at hinfo
  have hb : ie.bytes = 8 := by
   have : (Tryz.prog.info? 61).map (·.bytes) = some 8 := by kernel_rfl
   rw [hi] at this; simpa using this
  have holds : ∃ olds : List Value, olds.length = s.c ∧ (Builtin.firstCells ie.size s.c (.slice s.a s.c s.c)).run Tryz.prog w.drew = .ok olds.toArray w.drew := by
   by_cases hc0 : s.c = 0
   ·refine ⟨[], by simp [hc0], ?_⟩
    rw [hc0]
    cases s.a with
    | none => rfl
    | some a =>
     have := run_loadCells_list (P := Tryz.prog) w.drew a [] (by simp)
     simpa [Builtin.firstCells] using this
   ·obtain ⟨l, hl, hr⟩ := exists_cells (w := w) (b := s.b) s.c s.o (fun i hi => (hs.wr i hi).1)
    refine ⟨l, hl, ?_⟩
    rw [hs.at_ hc0, hinfo.1]
    have := run_loadCells_list (P := Tryz.prog) w.drew ⟨s.b, s.o, none⟩ l (fun j v hj => by rw [addr_add]; exact hr j v hj)
    rw [hl] at this
    simpa [Builtin.firstCells] using this
  obtain ⟨olds, hol, hold⟩ := holds
  have hint : Tryz.prog.underlying 3 = some (.int .i64) := Tryz.underlying3
  have := Lib.run_append_grow_zeros (P := Tryz.prog) w t 3 t 61 ie (.int .u64 0) .i64 .i64 ht hint hi hinfo.2 s.a s.c s.c olds hold k h0 (by rw [hinfo.1]; omega) (by omega) (by omega) (by rw [hb]; omega)
   (by rw [hb]; have := nextcap_le (s.c + k) s.c (by omega); omega)
  have hge := grownCap_ge w (s.c + k) s.c 61
  have hle := grownCap_le_maxLen w (s.c + k) s.c 61 (by unfold maxLen; omega)
  unfold maxLen at hle
  generalize grownCap w (s.c + k) s.c 61 = c at this hge hle
  have hsz : (olds.toArray ++ Builtin.zeroCells (Value.int IntKind.u64 0).cells k ++ Builtin.zeroCells (Value.int IntKind.u64 0).cells (c - (s.c + k))).size = c := by
   rw [Array.size_append, Array.size_append, show (Value.int IntKind.u64 0).cells = #[(.int .u64 0 : Value)] from rfl, zeroCells_size, zeroCells_size]
   simp [hol]; omega
  generalize olds.toArray ++ Builtin.zeroCells (Value.int IntKind.u64 0).cells k ++ Builtin.zeroCells (Value.int IntKind.u64 0).cells (c - (s.c + k)) = C at this hsz
  refine ⟨c, w.drew.alloc (.cells C 61), ?_, hge, fun n hn => ?_, (Chg.drew0 w _).trans' (Chg.alloc w.drew _ (fun a => RowKit.frozen?_alloc_cells w.drew C 61 a) _)⟩
  ·rw [BigFrame.builtin_append]
   simp only [Sem.run_bind, this]
   rfl
  ·have := alloc_row_st w.drew hs.gb C n (by rw [hsz]; exact hn) (by rw [hsz]; omega)
   rw [hsz] at this
   exact this
theorem c164 (s : Sl) (n : Nat) (w : World) (hs : St w s) (hn : s.l + n ≤ 8796093022208) : Calls Tryz.prog 164 #[s.v, .int .i64 (n : Int)] w fun e w' => ∃ v, e = .returned v ∧ GrowR w s n v w' := by
 have hc := hs.lc
 have hm := hs.cm
 refine F164.call s.a s.l s.c n w _ fun B => bc_false (decF (by omega)) fun B1 => F164.t1 s.a s.l s.c n ⟨rfl, rfl, trivial⟩ fun B2 => ⟨by unfold inI64; omega, by unfold inI64; omega, bc_intro (fun hb => ?_) (fun hb B3 => ?_)⟩
 ·have hk : 0 < s.l + n - s.c := by have := dT hb; omega
  have ek : ((n : Int) - ((s.c : Int) - (s.l : Int))) = ((s.l + n - s.c : Nat) : Int) := by omega
  rw [ek]
  obtain ⟨c, w', r1, r2, r3, r4⟩ := grow_run 44 Tryz.underlying44 s (s.l + n - s.c) w hs hk (by omega)
  refine ⟨s.c, rfl, Nat.le_refl _, w', ⟨_, _, _, r1, s.l, rfl, by omega, fun B4 => F164.t2 _ _ _ ⟨rfl, trivial⟩ fun B5 B6 => ret1 rfl rfl ⟨⟨_, s.l, c, w.heap.size, 0⟩, rfl, rfl, by show s.l + n ≤ c; omega, r3 _ (by omega), .inr ⟨Nat.le_refl _, by show c ≠ 0; omega⟩, r4⟩⟩⟩
 ·have hk : s.l + n ≤ s.c := by have := dF hb; omega
  exact F164.t2 _ _ _ ⟨rfl, trivial⟩ fun B5 B6 => ret1 rfl rfl ⟨s, rfl, rfl, hk, hs, .inl rfl, Chg.refl _ _⟩
theorem c142 (s : Sl) (n : Nat) (w : World) (hs : St w s) (hn : s.l + n ≤ 8796093022208) : Calls Tryz.prog 142 #[s.v, .int .i64 (n : Int)] w fun e w' => ∃ v, e = .returned v ∧ GrowR w s n v w' := by
 have hc := hs.lc
 have hm := hs.cm
 refine F142.call s.a s.l s.c n w _ fun B => bc_false (decF (by omega)) fun B1 => F142.t1 s.a s.l s.c n ⟨rfl, rfl, trivial⟩ fun B2 => ⟨by unfold inI64; omega, by unfold inI64; omega, bc_intro (fun hb => ?_) (fun hb B3 => ?_)⟩
 ·have hk : 0 < s.l + n - s.c := by have := dT hb; omega
  have ek : ((n : Int) - ((s.c : Int) - (s.l : Int))) = ((s.l + n - s.c : Nat) : Int) := by omega
  rw [ek]
  obtain ⟨c, w', r1, r2, r3, r4⟩ := grow_run 45 Tryz.underlying45 s (s.l + n - s.c) w hs hk (by omega)
  refine ⟨s.c, rfl, Nat.le_refl _, w', ⟨_, _, _, r1, s.l, rfl, by omega, fun B4 => F142.t2 _ _ _ ⟨rfl, trivial⟩ fun B5 B6 => ret1 rfl rfl ⟨⟨_, s.l, c, w.heap.size, 0⟩, rfl, rfl, by show s.l + n ≤ c; omega, r3 _ (by omega), .inr ⟨Nat.le_refl _, by show c ≠ 0; omega⟩, r4⟩⟩⟩
 ·have hk : s.l + n ≤ s.c := by have := dF hb; omega
  exact F142.t2 _ _ _ ⟨rfl, trivial⟩ fun B5 B6 => ret1 rfl rfl ⟨s, rfl, rfl, hk, hs, .inl rfl, Chg.refl _ _⟩
end Go.Proofs.YtlkjiiibmfpbcaaGreatDoor
