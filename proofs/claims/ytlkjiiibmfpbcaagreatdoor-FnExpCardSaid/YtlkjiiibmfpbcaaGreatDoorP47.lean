/- Contracts over digits: Cmp, Sub, Add, Bit, byDigit, Has. Condition: lengths up to a million. -/
import Derived.Test.YtlkjiiibmfpbcaaGreatDoorP46
namespace Go.Proofs.YtlkjiiibmfpbcaaGreatDoor
open Go
theorem hdiv (A i : Nat) : A / 65536 ^ i = 65536 * (A / 65536 ^ (i + 1)) + hg A i := by
 unfold hg
 rw [Nat.pow_succ, ← Nat.div_div_eq_div_mul]
 exact (Nat.div_add_mod _ _).symm
theorem hlt {A B i : Nat} (h : A / 65536 ^ (i + 1) = B / 65536 ^ (i + 1)) (h2 : hg A i < hg B i) : A < B := by
 rcases Nat.lt_or_ge A B with h3 | h3
 ·exact h3
 ·have h4 : B / 65536 ^ i ≤ A / 65536 ^ i := Nat.div_le_div_right h3
  rw [hdiv A i, hdiv B i, h] at h4
  omega
theorem sgn_lt {A B : Nat} (h : A < B) : sgn A B = -1 := by unfold sgn; rw [if_pos h]
theorem sgn_gt {A B : Nat} (h : B < A) : sgn A B = 1 := by unfold sgn; rw [if_neg (by omega), if_neg (by omega)]
theorem c36 (a b : Sl) (A B : Nat) (w : World) (ha : Hn w a A) (hb : Hn w b B) (hl : a.l ≤ 1000000) :
  Calls Tryz.prog 36 #[a.v, b.v] w fun e w' => e = .returned (.int .i64 (sgn A B)) ∧ Chg w w' none2 := by
 refine (F36.call a.a a.l a.c b.a b.l b.c w (fun v w' => v = .int .i64 (sgn A B) ∧ Chg w w' none2) fun B0 => bc_intro (fun h B1 => ?_) (fun h => bc_intro (fun h2 B1 => ?_) (fun h2 => ?_))).mono fun e w' ⟨v, h1, h2, h3⟩ => ⟨by rw [h1, h2], h3⟩
 ·have h := dT h
  have hAB : A < B := Nat.lt_of_lt_of_le ha.lt (Nat.le_trans (Nat.pow_le_pow_right (by omega) (by omega)) (hb.le (by omega)))
  exact ret1 rfl rfl ⟨by rw [sgn_lt hAB]; rfl, Chg.refl _ _⟩
 ·have h := dT h2
  have hAB : B < A := Nat.lt_of_lt_of_le hb.lt (Nat.le_trans (Nat.pow_le_pow_right (by omega) (by omega)) (ha.le (by omega)))
  exact ret1 rfl rfl ⟨by rw [sgn_gt hAB]; rfl, Chg.refl _ _⟩
 ·have h := dF h
  have h2 := dF h2
  have hll : a.l = b.l := by omega
  refine ⟨by unfold inI64; omega, fun B1 => ?_⟩
  rw [F36.q3]
  refine W_for' (σ := Nat) (fun j => F36.l2 a.a a.l a.c b.a b.l b.c ((j : Int) - 1)) (fun j w' => Chg w w' none2 ∧ j ≤ a.l ∧ A / 65536 ^ j = B / 65536 ^ j) (fun j => j) a.l ⟨rfl, rfl, rfl, trivial⟩ ⟨Chg.refl _ _, Nat.le_refl _, by rw [Nat.div_eq_of_lt ha.lt, hll, Nat.div_eq_of_lt hb.lt]⟩ ?_
  rintro j B2 wr K2 ⟨hc, hj, he⟩ hKn hKe hKr
  refine F36.t2 a.a a.l a.c b.a b.l b.c _ ⟨rfl, rfl, rfl, trivial⟩ fun B3 => bc_intro (fun h3 => ?_) (fun h3 B4 => ?_)
  ·have h3 := dT h3
   obtain ⟨i, rfl⟩ : ∃ i, j = i + 1 := ⟨j - 1, by omega⟩
   have cd : Chg w wr.drew none2 := hc.drew
   have ra := ha.toRh.keep cd
   have rb := hb.toRh.keep cd
   have cd2 : Chg w wr.drew.drew none2 := cd.drew
   have ra2 := ha.toRh.keep cd2
   have rb2 := hb.toRh.keep cd2
   refine rdR (k := i) ra (by omega) (by omega) (rdR (k := i) rb (by omega) (by omega) (bc_intro (fun h4 B4 => hKr _ _ ?_) fun h4 => ?_))
   ·exact ret1 rfl rfl ⟨by rw [sgn_lt (hlt he (by have := dT h4; omega))]; rfl, cd⟩
   ·refine rdR (k := i) ra2 (by omega) (by omega) (rdR (k := i) rb2 (by omega) (by omega) (bc_intro (fun h5 B4 => hKr _ _ ?_) fun h5 => ⟨by unfold inI64; omega, fun B5 => ?_⟩))
    ·exact ret1 rfl rfl ⟨by rw [sgn_gt (hlt he.symm (by have := dT h5; omega))]; rfl, cd2⟩
    ·exact hKn _ _ i ⟨rfl, rfl, intv (by omega), trivial⟩ rfl ⟨cd2, by omega, by rw [hdiv A i, hdiv B i, he]; have := dF h4; have := dF h5; omega⟩ (by omega)
  ·have h3 := dF h3
   have hj0 : j = 0 := by omega
   subst hj0
   rw [Nat.pow_zero, Nat.div_one, Nat.div_one] at he
   refine hKe _ _ ?_
   show W Tryz.prog 41 F36.p1 _ wr _
   refine F36.t1 (trivial) fun B4 B5 => ret1 rfl rfl ⟨by rw [he, sgn_self]; rfl, hc⟩
theorem c37 (a b : Sl) (A B : Nat) (w : World) (hG : GB ≤ w.heap.size) (ha : Rh w a A) (hb : Rh w b B) (hl : a.l ≤ 100000) (hAB : B ≤ A) :
  Calls Tryz.prog 37 #[a.v, b.v] w fun e w' => ∃ r : Sl, e = .returned r.v ∧ Hn w' r (A - B) ∧ Chg w w' none2 := by
 refine (F37.call a.a a.l a.c b.a b.l b.c w (fun v w' => ∃ r : Sl, v = r.v ∧ Hn w' r (A - B) ∧ Chg w w' none2) fun B0 => ?_).mono fun e w' ⟨v, h1, r, h2, h3⟩ => ⟨r, by rw [h1, h2], h3⟩
 obtain ⟨s0, w1, e1, l1, h1, c1⟩ := Ho.empty hG (Chg.refl w none2)
 refine ⟨w1, _, _, _, e1, fun B1 => ?_⟩
 rw [F37.q3]
 refine W_for' (σ := Nat × Nat × Sl) (fun s => F37.l2 b.a b.l b.c s.2.2.a s.2.2.l s.2.2.c (s.2.1 : Int) a.a a.l a.c (a.l : Int) (s.1 : Int))
  (fun s w' => s.1 ≤ a.l ∧ s.2.1 ≤ 1 ∧ s.2.2.l = s.1 ∧ ∃ V, Ho w w' s.2.2 V ∧ V + B % 65536 ^ s.1 = A % 65536 ^ s.1 + s.2.1 * 65536 ^ s.1) (fun s => a.l - s.1) (0, 0, s0) ⟨rfl, rfl, rfl, rfl, rfl, rfl, trivial⟩
  ⟨Nat.zero_le _, Nat.zero_le _, l1, 0, h1, by simp [Nat.mod_one]⟩ ?_
 rintro ⟨i, c, out⟩ B2 wr K2 ⟨hi, hc, hol, V, ho, hV⟩ hKn hKe _
 simp only at hi hc hol ho hV
 have ra := ha.keep ho.ch
 have rb := hb.keep ho.ch
 refine F37.t2 b.a b.l b.c out.a out.l out.c (c : Int) a.a a.l a.c (a.l : Int) (i : Int) ⟨rfl, rfl, rfl, rfl, rfl, rfl, trivial⟩ fun B3 => bc_intro (fun h3 => ?_) (fun h3 B4 => ?_)
 ·have hlt : i < a.l := by have := dT h3; omega
  have hgA := hg_lt A i
  have hgB := hg_lt B i
  have last : ∀ (B' : Nat → Value) (x : Int) (c' d : Nat), x = (d : Int) → d < 65536 → c' ≤ 1 → d + hg B i + c = hg A i + 65536 * c' →
    W Tryz.prog 41 F37.p6 (E [(1, b.v), (5, out.v), (6, .int .i64 (c' : Int)), (8, .int .i64 x), (10, a.v), (11, .int .i64 (a.l : Int)), (12, .int .i64 (i : Int))] B' []) wr (blockK 1 (thenW Tryz.prog 41 F37.p4 K2)) := by
   intro B' x c' d hx hd hc' heq
   refine F37.t6 b.a b.l b.c out.a out.l out.c (c' : Int) x a.a a.l a.c (a.l : Int) (i : Int) ⟨rfl, rfl, rfl, rfl, rfl, rfl, rfl, trivial⟩ fun B4 => ?_
   obtain ⟨w2, a2, l2, c2, e2, r, w3, e3, l3, h3⟩ := ho.push (d := d) (z := x) hx hd (by omega)
   refine ⟨w2, a2, l2, c2, e2, w3, r.a, r.l, r.c, e3, fun B5 => ?_⟩
   show W Tryz.prog 41 F37.p4 _ w3 K2
   refine F37.t4 b.a b.l b.c r.a r.l r.c (c' : Int) a.a a.l a.c (a.l : Int) (i : Int) ⟨rfl, rfl, rfl, rfl, rfl, rfl, trivial⟩ fun B6 => ⟨by unfold inI64; omega, fun B7 => hKn _ _ (i + 1, c', r) ⟨rfl, rfl, rfl, rfl, rfl, intv (by omega), trivial⟩ rfl ⟨hlt, hc', by show r.l = i + 1; omega, _, h3, ?_⟩ (by show a.l - (i + 1) < a.l - i; omega)⟩
   rw [hmod_succ A i, hmod_succ B i, Nat.pow_succ, hol]
   have h5 := congrArg (65536 ^ i * ·) heq
   simp only [Nat.mul_add] at h5
   rw [Nat.mul_comm (65536 ^ i) c] at h5
   rw [show c' * (65536 ^ i * 65536) = 65536 ^ i * (65536 * c') by rw [Nat.mul_comm c', Nat.mul_assoc]]
   omega
  have mid : ∀ (B' : Nat → Value) (x : Int), x = (hg A i : Int) - (c : Int) - (hg B i : Int) →
    W Tryz.prog 41 F37.p5 (E [(1, b.v), (5, out.v), (8, .int .i64 x), (10, a.v), (11, .int .i64 (a.l : Int)), (12, .int .i64 (i : Int))] B' []) wr (blockK 1 (thenW Tryz.prog 41 F37.p4 K2)) := by
   intro B' x hx
   refine F37.t5 b.a b.l b.c out.a out.l out.c x a.a a.l a.c (a.l : Int) (i : Int) ⟨rfl, rfl, rfl, rfl, rfl, rfl, trivial⟩ fun B4 => bc_intro (fun h4 => ?_) (fun h4 B5 => ?_)
   ·have h4 := dT h4
    exact ⟨by unfold inI64; omega, fun B5 => last B5 _ 1 (x + 65536).toNat (by omega) (by omega) (by omega) (by omega)⟩
   ·have h4 := dF h4
    exact last B5 _ 0 x.toNat (by omega) (by omega) (by omega) (by omega)
  refine rdR (k := i) ra rfl hlt ⟨by unfold inI64; omega, bc_intro (fun h4 => ?_) (fun h4 B4 => ?_)⟩
  ·have h4 := dT h4
   exact rdR (k := i) rb rfl (by omega) ⟨by unfold inI64; omega, fun B4 => mid B4 _ rfl⟩
  ·have h4 := dF h4
   refine mid B4 _ ?_
   rw [hg_of_lt B i (Nat.lt_of_lt_of_le hb.lt (Nat.pow_le_pow_right (by omega) (by omega)))]
   omega
 ·have hil : i = a.l := by have := dF h3; omega
  refine hKe _ _ ?_
  show W Tryz.prog 41 F37.p1 _ wr _
  rw [hil, Nat.mod_eq_of_lt ha.lt, Nat.mod_eq_of_lt (Nat.lt_of_le_of_lt hAB ha.lt)] at hV
  have hVl := ho.lt
  rw [hol, hil] at hVl
  have hc0 : c = 0 := by
   rcases Nat.eq_zero_or_pos c with h | h
   ·exact h
   ·obtain rfl : c = 1 := by omega
    omega
  have hVe : V = A - B := by rw [hc0] at hV; omega
  refine F37.t1 out.a out.l out.c ⟨rfl, trivial⟩ fun B4 => (c16 out V wr ho.rh (by omega)).mono ?_
  rintro e4 w4 ⟨r, rfl, hr, hw⟩
  subst hw
  exact ⟨_, _, _, rfl, fun B5 => ret1 rfl rfl ⟨r, rfl, by rw [← hVe]; exact hr, ho.ch⟩⟩
theorem c38 (a b : Sl) (A B : Nat) (w : World) (hG : GB ≤ w.heap.size) (ha : Rh w a A) (hb : Rh w b B) (hl : a.l ≤ 100000) (hl2 : b.l ≤ 100000) :
  Calls Tryz.prog 38 #[a.v, b.v] w fun e w' => ∃ r : Sl, e = .returned r.v ∧ Hn w' r (A + B) ∧ Chg w w' none2 := by
 refine (F38.call a.a a.l a.c b.a b.l b.c w (fun v w' => ∃ r : Sl, v = r.v ∧ Hn w' r (A + B) ∧ Chg w w' none2) fun B0 => ?_).mono fun e w' ⟨v, h1, r, h2, h3⟩ => ⟨r, by rw [h1, h2], h3⟩
 obtain ⟨s0, w1, e1, l1, h1, c1⟩ := Ho.empty hG (Chg.refl w none2)
 refine ⟨w1, _, _, _, e1, fun B1 => ?_⟩
 rw [F38.q3]
 refine W_for' (σ := Nat × Nat × Sl) (fun s => F38.l2 a.a a.l a.c b.a b.l b.c s.2.2.a s.2.2.l s.2.2.c (s.2.1 : Int) (s.1 : Int))
  (fun s w' => (s.1 ≤ a.l ∨ s.1 ≤ b.l) ∧ s.2.1 ≤ 1 ∧ s.2.2.l = s.1 ∧ ∃ V, Ho w w' s.2.2 V ∧ V + s.2.1 * 65536 ^ s.1 = A % 65536 ^ s.1 + B % 65536 ^ s.1) (fun s => a.l + b.l - s.1) (0, 0, s0) ⟨rfl, rfl, rfl, rfl, rfl, trivial⟩
  ⟨.inl (Nat.zero_le _), Nat.zero_le _, l1, 0, h1, by simp [Nat.mod_one]⟩ ?_
 rintro ⟨i, c, out⟩ B2 wr K2 ⟨hi, hc, hol, V, ho, hV⟩ hKn hKe _
 simp only at hi hc hol ho hV
 have ra := ha.keep ho.ch
 have rb := hb.keep ho.ch
 have hgA := hg_lt A i
 have hgB := hg_lt B i
 have zA : a.l ≤ i → hg A i = 0 := fun h => hg_of_lt A i (Nat.lt_of_lt_of_le ha.lt (Nat.pow_le_pow_right (by omega) h))
 have zB : b.l ≤ i → hg B i = 0 := fun h => hg_of_lt B i (Nat.lt_of_lt_of_le hb.lt (Nat.pow_le_pow_right (by omega) h))
 have last : ∀ (B' : Nat → Value) (x : Int), (i < a.l ∨ i < b.l) → x = ((c + hg A i + hg B i : Nat) : Int) →
   W Tryz.prog 53 F38.p6 (E [(0, a.v), (1, b.v), (5, out.v), (6, .int .i64 x), (7, .int .i64 (i : Int))] B' []) wr (blockK 1 (thenW Tryz.prog 53 F38.p4 K2)) := by
  intro B' x hi hx
  obtain ⟨s, hs⟩ : ∃ s, s = c + hg A i + hg B i := ⟨_, rfl⟩
  rw [← hs] at hx
  subst hx
  refine F38.t6 a.a a.l a.c b.a b.l b.c out.a out.l out.c (s : Int) (i : Int) ⟨rfl, rfl, rfl, rfl, rfl, trivial⟩ fun B4 => ⟨by decide, ?_⟩
  obtain ⟨w2, a2, l2, c2, e2, r, w3, e3, l3, h3⟩ := ho.push (d := s % 65536) (z := iRem (s : Int) 65536) (rem16 s) (Nat.mod_lt _ (by omega)) (by omega)
  refine ⟨w2, a2, l2, c2, e2, w3, r.a, r.l, r.c, e3, by decide, fun B5 => ?_⟩
  rw [quo16 s (by omega)]
  show W Tryz.prog 53 F38.p4 _ w3 K2
  refine F38.t4 a.a a.l a.c b.a b.l b.c r.a r.l r.c ((s / 65536 : Nat) : Int) (i : Int) ⟨rfl, rfl, rfl, rfl, rfl, trivial⟩ fun B6 => ⟨by unfold inI64; omega, fun B7 => hKn _ _ (i + 1, s / 65536, r) ⟨rfl, rfl, rfl, rfl, intv (by omega), trivial⟩ rfl ⟨by show i + 1 ≤ a.l ∨ i + 1 ≤ b.l; omega, by show s / 65536 ≤ 1; omega, by show r.l = i + 1; omega, _, h3, ?_⟩ (by show a.l + b.l - (i + 1) < a.l + b.l - i; omega)⟩
  rw [hmod_succ A i, hmod_succ B i, Nat.pow_succ, hol]
  have h5 := congrArg (65536 ^ i * ·) (show s % 65536 + 65536 * (s / 65536) = c + hg A i + hg B i by omega)
  simp only [Nat.mul_add] at h5
  rw [Nat.mul_comm (65536 ^ i) c] at h5
  rw [show s / 65536 * (65536 ^ i * 65536) = 65536 ^ i * (65536 * (s / 65536)) by rw [Nat.mul_comm (s / 65536), Nat.mul_assoc]]
  omega
 have mid : ∀ (B' : Nat → Value) (x : Int), (i < a.l ∨ i < b.l) → x = ((c + hg A i : Nat) : Int) →
   W Tryz.prog 53 F38.p5 (E [(0, a.v), (1, b.v), (5, out.v), (6, .int .i64 x), (7, .int .i64 (i : Int))] B' []) wr (blockK 1 (thenW Tryz.prog 53 F38.p4 K2)) := by
  intro B' x hi hx
  refine F38.t5 a.a a.l a.c b.a b.l b.c out.a out.l out.c x (i : Int) ⟨rfl, rfl, rfl, rfl, rfl, trivial⟩ fun B4 => bc_intro (fun h4 => ?_) (fun h4 B5 => ?_)
  ·exact rdR (k := i) rb rfl (by have := dT h4; omega) ⟨by unfold inI64; omega, fun B5 => last B5 _ hi (by omega)⟩
  ·exact last B5 _ hi (by have := zB (by have := dF h4; omega); omega)
 refine F38.t2 a.a a.l a.c b.a b.l b.c out.a out.l out.c (c : Int) (i : Int) ⟨rfl, rfl, rfl, rfl, rfl, trivial⟩ fun B3 => bc_intro (fun h3 => bc_intro (fun h4 => ?_) (fun h4 B4 => ?_)) (fun h3 => bc_intro (fun h5 => bc_intro (fun h4 => ?_) (fun h4 B4 => ?_)) (fun h5 B4 => ?_))
 ·have h3 := dT h3
  exact rdR (k := i) ra rfl (by omega) ⟨by unfold inI64; omega, fun B4 => mid B4 _ (by omega) (by omega)⟩
 ·exact absurd (dT h3) (dF h4)
 ·exact absurd (dT h4) (dF h3)
 ·have h5 := dT h5
  exact mid B4 _ (by omega) (by have := zA (by have := dF h3; omega); omega)
 ·have h3 := dF h3
  have h5 := dF h5
  refine hKe _ _ ?_
  show W Tryz.prog 53 F38.p1 _ wr _
  rw [Nat.mod_eq_of_lt (Nat.lt_of_lt_of_le ha.lt (Nat.pow_le_pow_right (by omega) (by omega))), Nat.mod_eq_of_lt (Nat.lt_of_lt_of_le hb.lt (Nat.pow_le_pow_right (by omega) (by omega)))] at hV
  refine F38.t1 out.a out.l out.c (c : Int) ⟨rfl, rfl, trivial⟩ fun B4 => ?_
  obtain ⟨w2, a2, l2, c2, e2, r, w3, e3, l3, h3⟩ := ho.push (d := c) (z := (c : Int)) rfl (by omega) (by omega)
  have hVe : V + 65536 ^ out.l * c = A + B := by rw [hol, Nat.mul_comm]; exact hV
  rw [hVe] at h3
  refine ⟨w2, a2, l2, c2, e2, w3, r.a, r.l, r.c, e3, (c16 r (A + B) w3 h3.rh (by omega)).mono ?_⟩
  rintro e4 w4 ⟨r4, rfl, hr, hw⟩
  subst hw
  exact ⟨_, _, _, rfl, fun B5 => ret1 rfl rfl ⟨r4, rfl, hr, h3.ch⟩⟩
theorem iQuo16 (n : Nat) (h : n ≤ 9223372036854775807) : iQuo .i64 (n : Int) 16 = ((n / 16 : Nat) : Int) := iQuoI n 16 h
theorem iRem16 (n : Nat) : iRem (n : Int) 16 = ((n % 16 : Nat) : Int) := iRemN n 16
theorem two16 (n : Nat) : 2 ^ n = 65536 ^ (n / 16) * 2 ^ (n % 16) := by rw [p16, ← Nat.pow_add]; congr 1; omega
theorem two_lt (n : Nat) : 2 ^ (n % 16) ≤ 32768 := Nat.le_trans (Nat.pow_le_pow_right (by omega) (show n % 16 ≤ 15 by omega)) (by decide)
theorem c39 (n : Nat) (w : World) (hG : GB ≤ w.heap.size) (hn : n ≤ 1000000) :
  Calls Tryz.prog 39 #[.int .i64 (n : Int)] w fun e w' => ∃ r : Sl, e = .returned r.v ∧ Hn w' r (2 ^ n) ∧ Chg w w' none2 := by
 refine (F39.call (n : Int) w (fun v w' => ∃ r : Sl, v = r.v ∧ Hn w' r (2 ^ n) ∧ Chg w w' none2) fun B0 => ?_).mono fun e w' ⟨v, h1, r, h2, h3⟩ => ⟨r, by rw [h1, h2], h3⟩
 unfold F39.v0
 rw [iQuo16 n (by omega), iRem16 n]
 have h1 := two_lt n
 refine ⟨by decide, by unfold inI64; omega, n / 16 + 1, n / 16 + 1, by omega, by omega, Nat.le_refl _, by omega, by omega, by decide, by decide, by omega, ?_⟩
 have ho := Ho.make hG (Chg.refl w none2) (n / 16 + 1) (by omega)
 obtain ⟨z, hz⟩ : ∃ z : Sl, z = ⟨some ⟨w.heap.size, 0, none⟩, n / 16 + 1, n / 16 + 1, w.heap.size, 0⟩ := ⟨_, rfl⟩
 rw [← hz] at ho
 have hza : (some ⟨w.heap.size, 0, none⟩ : Option Addr) = z.a := by rw [hz]
 have hzl : z.l = n / 16 + 1 := by rw [hz]
 have hp := ho.put (i := n / 16) (d := 2 ^ (n % 16)) (by omega) (by omega)
 have he : iShl .i64 1 ((n % 16 : Nat) : Int) = ((2 ^ (n % 16) : Nat) : Int) := by
  have := iShlI 1 (n % 16) (by omega) (by omega)
  rw [Nat.one_mul] at this; exact this
 have hv : setH 0 (n / 16) (2 ^ (n % 16)) = 2 ^ n := by
  have := setH_add 0 (n / 16) (2 ^ (n % 16))
  rw [hg_zero, Nat.mul_zero, Nat.add_zero, Nat.zero_add] at this
  rw [this, two16 n]
 rw [hv] at hp
 rw [← hzl] at ho hp
 rw [hza, ← hzl]
 refine wtC (k := n / 16) ho.toSt.wt rfl (by omega) fun B1 => ?_
 rw [he]
 have hzv : Value.slice z.a z.l z.l = z.v := by unfold Sl.v; rw [show z.c = z.l by rw [hz]]
 refine ret1 rfl rfl ⟨z, hzv, ⟨hp.rh, fun k hk => ?_⟩, hp.ch⟩
 rcases Nat.lt_or_ge k z.l with h | h
 ·have h2 : 65536 ^ k ≤ 65536 ^ (n / 16) := Nat.pow_le_pow_right (by omega) (by omega)
  rw [two16 n] at hk
  have := Nat.two_pow_pos (n % 16)
  have h3 : 65536 ^ (n / 16) * 1 ≤ 65536 ^ (n / 16) * 2 ^ (n % 16) := Nat.mul_le_mul_left _ this
  omega
 ·exact h
theorem c25 (a : Sl) (A n : Nat) (w : World) (ha : Rh w a A) (hl : a.l ≤ 1000000) (hn : n ≤ 100000000) :
  Calls Tryz.prog 25 #[a.v, .int .i64 (n : Int)] w fun e w' => e = .returned (.bool (A / 2 ^ n % 2 == 1)) ∧ w' = w := by
 refine (F25.call a.a a.l a.c (n : Int) w (fun v w' => v = .bool (A / 2 ^ n % 2 == 1) ∧ w' = w) fun B0 => ?_).mono fun e w' ⟨v, h1, h2, h3⟩ => ⟨by rw [h1, h2], h3⟩
 unfold F25.v0
 rw [iQuo16 n (by omega), iRem16 n]
 refine ⟨by decide, bc_intro (fun h => ⟨by decide, ?_⟩) (fun h B1 => ?_)⟩
 ·have h := dT h
  refine rdR (k := n / 16) ha rfl (by omega) ⟨by decide, by omega, fun B1 => ret1 rfl rfl ⟨?_, rfl⟩⟩
  have hlt := hg_lt A (n / 16)
  have hle := Nat.div_le_self (hg A (n / 16)) (2 ^ (n % 16))
  rw [iShrI _ _ (by omega), iAnd1 _ (by omega)]
  have e : A / 2 ^ n % 2 = hg A (n / 16) / 2 ^ (n % 16) % 2 := by
   unfold hg
   rw [two16 n, ← Nat.div_div_eq_div_mul]
   obtain ⟨Y, hY⟩ : ∃ Y, Y = A / 65536 ^ (n / 16) := ⟨_, rfl⟩
   rw [← hY]
   obtain ⟨j, hj⟩ : ∃ j, 16 = n % 16 + 1 + j := ⟨15 - n % 16, by omega⟩
   obtain ⟨s, hs⟩ : ∃ s, s = n % 16 := ⟨_, rfl⟩
   rw [← hs] at hj ⊢
   rw [show (65536 : Nat) = 2 ^ 16 from rfl, hj, show s + 1 + j = s + (1 + j) by omega, Nat.pow_add 2 s, Nat.mod_mul_right_div_self, Nat.pow_add 2 1, Nat.pow_one, Nat.mod_mul_right_mod]
  rw [e]
  obtain ⟨q, hq⟩ : ∃ q, q = hg A (n / 16) / 2 ^ (n % 16) % 2 := ⟨_, rfl⟩
  rw [← hq]
  have : q < 2 := by rw [hq]; exact Nat.mod_lt _ (by omega)
  congr 1
  rcases (show q = 0 ∨ q = 1 by omega) with h | h <;> subst h <;> rfl
 ·have h := dF h
  refine ret1 rfl rfl ⟨?_, rfl⟩
  have : A < 2 ^ n := Nat.lt_of_lt_of_le ha.lt (by rw [p16]; exact Nat.pow_le_pow_right (by omega) (by omega))
  rw [Nat.div_eq_of_lt this]
  rfl
theorem c28 (a : Sl) (A d : Nat) (w : World) (hG : GB ≤ w.heap.size) (ha : Rh w a A) (hl : a.l ≤ 1000000) (hd : 0 < d) (hd2 : d < 65536) :
  Calls Tryz.prog 28 #[a.v, .int .i64 (d : Int)] w fun e w' => ∃ r : Sl, e = .returned (.tuple #[r.v, .int .i64 ((A % d : Nat) : Int)]) ∧ Hn w' r (A / d) ∧ Chg w w' none2 := by
 refine (F28.call a.a a.l a.c (d : Int) w (fun v w' => ∃ r : Sl, v = .tuple #[r.v, .int .i64 ((A % d : Nat) : Int)] ∧ Hn w' r (A / d) ∧ Chg w w' none2) fun B0 => ?_).mono fun e w' ⟨v, h1, r, h2, h3⟩ => ⟨r, by rw [h1, h2], h3⟩
 refine ⟨a.l, a.l, rfl, rfl, Nat.le_refl _, by omega, by omega, by unfold inI64; omega, fun B1 => ?_⟩
 have ho := Ho.make hG (Chg.refl w none2) a.l (by omega)
 obtain ⟨z, hz⟩ : ∃ z : Sl, z = ⟨some ⟨w.heap.size, 0, none⟩, a.l, a.l, w.heap.size, 0⟩ := ⟨_, rfl⟩
 rw [← hz] at ho
 have hzv : Value.slice (some ⟨w.heap.size, 0, none⟩) a.l a.l = z.v := by rw [hz]
 have hzl : z.l = a.l := by rw [hz]
 rw [F28.q3]
 have hd0 : (d : Int) ≠ 0 := by omega
 refine W_for' (σ := Nat) (fun j => F28.l2 a.a a.l a.c (d : Int) z.a z.l z.c ((A / 65536 ^ j % d : Nat) : Int) ((j : Int) - 1)) (fun j w' => j ≤ a.l ∧ Ho w w' z (65536 ^ j * (A / 65536 ^ j / d))) (fun j => j) a.l
  ⟨rfl, rfl, hzv, intv (by rw [Nat.div_eq_of_lt ha.lt, Nat.zero_mod]; rfl), rfl, trivial⟩ ⟨Nat.le_refl _, by rw [Nat.div_eq_of_lt ha.lt, Nat.zero_div, Nat.mul_zero]; exact ho⟩ ?_
 rintro j B2 wr K2 ⟨hj, hr⟩ hKn hKe _
 have ra := ha.keep hr.ch
 refine F28.t2 a.a a.l a.c (d : Int) z.a z.l z.c _ _ ⟨rfl, rfl, rfl, rfl, rfl, trivial⟩ fun B3 => bc_intro (fun h3 => ?_) (fun h3 B4 => ?_)
 ·have h3 := dT h3
  obtain ⟨i, rfl⟩ : ∃ i, j = i + 1 := ⟨j - 1, by omega⟩
  obtain ⟨U, hU⟩ : ∃ U, U = A / 65536 ^ (i + 1) := ⟨_, rfl⟩
  rw [← hU] at hr ⊢
  have hg1 := hg_lt A i
  have hm := Nat.mod_lt U hd
  obtain ⟨N, hN⟩ : ∃ N, N = U % d * 65536 + hg A i := ⟨_, rfl⟩
  have hNi : ((U % d : Nat) : Int) * 65536 + (hg A i : Int) = (N : Int) := by omega
  have hNd : N / d < 65536 := by
   rw [Nat.div_lt_iff_lt_mul hd]
   have : (U % d + 1) * 65536 ≤ d * 65536 := Nat.mul_le_mul_right _ hm
   omega
  have hAi : A / 65536 ^ i = 65536 * U + hg A i := by rw [hdiv A i, ← hU]
  have hsplit : 65536 * U + hg A i = N + d * (65536 * (U / d)) := by
   have h5 := Nat.div_add_mod U d
   have h6 := congrArg (65536 * ·) h5
   simp only [Nat.mul_add] at h6
   rw [show d * (65536 * (U / d)) = 65536 * (d * (U / d)) by rw [Nat.mul_left_comm]]
   omega
  have hq : A / 65536 ^ i / d = N / d + 65536 * (U / d) := by rw [hAi, hsplit, Nat.add_mul_div_left _ _ hd]
  have hrm : A / 65536 ^ i % d = N % d := by rw [hAi, hsplit, Nat.add_mul_mod_self_left]
  refine ⟨by unfold inI64; omega, rdR (k := i) ra (by omega) (by omega) ⟨by unfold inI64; omega, hd0, ?_⟩⟩
  rw [hNi, iQuoI N d (by omega), iRemN N d]
  have hp := hr.put (i := i) (d := N / d) (by omega) hNd
  have hv : setH (65536 ^ (i + 1) * (U / d)) i (N / d) = 65536 ^ i * (A / 65536 ^ i / d) := by
   have h7 := setH_add (65536 ^ (i + 1) * (U / d)) i (N / d)
   rw [show hg (65536 ^ (i + 1) * (U / d)) i = 0 by
    have := hg_add_lo 0 (U / d) (i + 1) i (by omega)
    rw [Nat.zero_add, hg_zero] at this; exact this, Nat.mul_zero, Nat.add_zero] at h7
   rw [h7, hq, Nat.pow_succ, Nat.mul_add, Nat.mul_assoc, Nat.add_comm]
  rw [hv] at hp
  refine wtC (k := i) hr.toSt.wt (by omega) (by omega) ⟨hd0, by unfold inI64; omega, fun B4 => hKn _ _ i ⟨rfl, rfl, rfl, intv (by rw [hrm]), intv (by omega), trivial⟩ rfl ⟨by omega, hp⟩ (by omega)⟩
 ·have h3 := dF h3
  obtain rfl : j = 0 := by omega
  rw [Nat.pow_zero, Nat.div_one, Nat.one_mul] at hr
  refine hKe _ _ ?_
  show W Tryz.prog 38 F28.p1 _ wr _
  refine F28.t1 z.a z.l z.c ((A % d : Nat) : Int) ⟨rfl, intv (by rw [Nat.pow_zero, Nat.div_one]), trivial⟩ fun B4 => (c16 z (A / d) wr hr.rh (by omega)).mono ?_
  rintro e4 w4 ⟨r4, rfl, h4, hw⟩
  subst hw
  exact ⟨_, _, _, rfl, fun B5 => ret2 rfl rfl rfl ⟨r4, rfl, h4, hr.ch⟩⟩
end Go.Proofs.YtlkjiiibmfpbcaaGreatDoor
namespace Go.Proofs.YtlkjiiibmfpbcaaGreatDoor
open Go
theorem c35 (a : Sl) (A n : Nat) (w : World) (hG : GB ≤ w.heap.size) (ha : Hn w a A) (hl : a.l ≤ 100000) (hn : n ≤ 1000000) :
  Calls Tryz.prog 35 #[a.v, .int .i64 (n : Int)] w fun e w' => ∃ r : Sl, e = .returned r.v ∧ Hn w' r (A * 2 ^ n) ∧ r.l ≤ a.l + n / 16 + 1 ∧ Chg w w' none2 := by
 refine (F35.call a.a a.l a.c (n : Int) w (fun v w' => ∃ r : Sl, v = r.v ∧ Hn w' r (A * 2 ^ n) ∧ r.l ≤ a.l + n / 16 + 1 ∧ Chg w w' none2) fun B0 => ?_).mono fun e w' ⟨v, h1, r, h2, h3⟩ => ⟨r, by rw [h1, h2], h3⟩
 unfold F35.v0
 rw [iQuo16 n (by omega)]
 refine bc_intro (fun h B1 => ?_) (fun h => ?_)
 ·have h0 : a.l = 0 := by have := eqE h; omega
  have hA := ha.zero_iff.1 h0
  exact ret1 rfl rfl ⟨a, rfl, by rw [hA, Nat.zero_mul]; rw [hA] at ha; exact ha, by omega, Chg.refl _ _⟩
 ·have h0 : a.l ≠ 0 := fun e => eqN h (by rw [e]; rfl)
  obtain ⟨q, hq⟩ : ∃ q, q = n / 16 := ⟨_, rfl⟩
  obtain ⟨s, hs⟩ : ∃ s, s = n % 16 := ⟨_, rfl⟩
  have hs16 : s < 16 := by omega
  have h2n : 2 ^ n = 65536 ^ q * 2 ^ s := by rw [two16 n, hq, hs]
  have hp0 := Nat.two_pow_pos s
  rw [← hq]
  refine ⟨by decide, by unfold inI64; omega, by unfold inI64; omega, q + a.l + 1, q + a.l + 1, by omega, by omega, Nat.le_refl _, by omega, by omega, fun B1 => ?_⟩
  have ho := Ho.make hG (Chg.refl w none2) (q + a.l + 1) (by omega)
  obtain ⟨z, hz⟩ : ∃ z : Sl, z = ⟨some ⟨w.heap.size, 0, none⟩, q + a.l + 1, q + a.l + 1, w.heap.size, 0⟩ := ⟨_, rfl⟩
  rw [← hz] at ho
  have hzv : Value.slice (some ⟨w.heap.size, 0, none⟩) (q + a.l + 1) (q + a.l + 1) = z.v := by rw [hz]
  have hzl : z.l = q + a.l + 1 := by rw [hz]
  rw [F35.q3]
  refine W_for' (σ := Nat) (fun t => F35.l2 (n : Int) z.a z.l z.c a.a a.l a.c (a.l : Int) (t : Int)) (fun t w' => t ≤ a.l ∧ Ho w w' z (A % 65536 ^ t * 2 ^ n)) (fun t => a.l - t) 0
   ⟨rfl, hzv, rfl, rfl, rfl, trivial⟩ ⟨Nat.zero_le _, by rw [Nat.pow_zero, Nat.mod_one, Nat.zero_mul]; exact ho⟩ ?_
  rintro t B2 wr K2 ⟨ht, hr⟩ hKn hKe _
  have ra := ha.toRh.keep hr.ch
  refine F35.t2 (n : Int) z.a z.l z.c a.a a.l a.c _ _ ⟨rfl, rfl, rfl, rfl, rfl, trivial⟩ fun B3 => ?_
  unfold F35.v2
  rw [iQuo16 n (by omega), iRem16 n, ← hq, ← hs]
  refine bc_intro (fun h3 => ?_) (fun h3 B4 => ?_)
  ·have hlt : t < a.l := by have := dT h3; omega
   obtain ⟨V, hV⟩ : ∃ V, V = A % 65536 ^ t * 2 ^ n := ⟨_, rfl⟩
   rw [← hV] at hr
   have hm := Nat.mod_lt A (hpos t)
   obtain ⟨d, hd⟩ : ∃ d, d = hg A t := ⟨_, rfl⟩
   have hd2 : d < 65536 := by rw [hd]; exact hg_lt A t
   have hVlt : V < 65536 ^ (q + t) * 2 ^ s := by
    rw [hV, h2n, Nat.pow_add, ← Nat.mul_assoc]
    refine Nat.mul_lt_mul_of_pos_right ?_ hp0
    rw [Nat.mul_comm]
    exact Nat.mul_lt_mul_of_pos_left hm (hpos q)
   have hs2 : 2 ^ s * 2 ^ (16 - s) = 65536 := by rw [← Nat.pow_add, show s + (16 - s) = 16 by omega]
   have hVlt1 : V < 65536 ^ (q + t + 1) := Nat.lt_of_lt_of_le hVlt (by rw [Nat.pow_succ]; exact Nat.mul_le_mul_left _ (by have := Nat.two_pow_pos (16 - s); have := Nat.mul_le_mul_left (2 ^ s) this; omega))
   obtain ⟨c, hc⟩ : ∃ c, c = hg V (q + t) := ⟨_, rfl⟩
   have hclt : c < 2 ^ s := by
    rw [hc]
    refine Nat.lt_of_le_of_lt (Nat.mod_le _ _) ?_
    rw [Nat.div_lt_iff_lt_mul (hpos _), Nat.mul_comm]; exact hVlt
   obtain ⟨m, hm2⟩ : ∃ m, m = d * 2 ^ s := ⟨_, rfl⟩
   have hsle : 2 ^ s ≤ 32768 := by rw [hs]; exact two_lt n
   have hmle : m ≤ 65535 * 32768 := by rw [hm2]; exact Nat.mul_le_mul (by omega) hsle
   have hmm : m % 65536 + 2 ^ s ≤ 65536 := by
    have e : m % 65536 = (d % 2 ^ (16 - s)) * 2 ^ s := by rw [hm2, ← hs2, Nat.mul_comm (2 ^ s), Nat.mul_mod_mul_right]
    have h5 := Nat.mod_lt d (Nat.two_pow_pos (16 - s))
    have h6 := Nat.mul_le_mul_right (2 ^ s) h5
    rw [Nat.succ_mul, Nat.mul_comm (2 ^ (16 - s)), hs2] at h6
    omega
   have hmd : m / 65536 < 65536 := by omega
   refine rdR (k := t) ra rfl hlt ?_
   rw [← hd, iShlI d s (by omega) (by rw [← hm2]; omega), ← hm2, rem16 m, quo16 m (by omega)]
   refine ⟨by decide, by omega, by decide, by unfold inI64; omega, rdR (k := q + t) hr.rh (by omega) (by omega) ?_⟩
   rw [← hc]
   refine ⟨by decide, by unfold inI64; omega, wtC (k := q + t) hr.toSt.wt (by omega) (by omega) ?_⟩
   have hsum : ((c : Nat) : Int) + ((m % 65536 : Nat) : Int) = ((c + m % 65536 : Nat) : Int) := by omega
   rw [hsum]
   have hp1 := hr.put (i := q + t) (d := c + m % 65536) (by omega) (by omega)
   have hp2 := hp1.put (i := q + t + 1) (d := m / 65536) (by omega) hmd
   refine ⟨by decide, by unfold inI64; omega, by unfold inI64; omega, by decide, wtC (k := q + t + 1) hp1.toSt.wt (by omega) (by omega) ⟨by unfold inI64; omega, fun B4 => hKn _ _ (t + 1) ⟨rfl, rfl, rfl, rfl, intv (by omega), trivial⟩ rfl ⟨hlt, ?_⟩ (by omega)⟩⟩
   have hval : setH (setH V (q + t) (c + m % 65536)) (q + t + 1) (m / 65536) = A % 65536 ^ (t + 1) * 2 ^ n := by
    have e1 := setH_add V (q + t) (c + m % 65536)
    have e2 := setH_add (setH V (q + t) (c + m % 65536)) (q + t + 1) (m / 65536)
    rw [hg_setH _ _ _ _ (by omega), if_neg (by omega), hg_of_lt V (q + t + 1) hVlt1, Nat.mul_zero, Nat.add_zero] at e2
    rw [← hc, Nat.mul_add] at e1
    rw [e2, hmod_succ, Nat.add_mul, ← hV, ← hd]
    have e3 : 65536 ^ t * d * 2 ^ n = 65536 ^ (q + t) * m := by
     rw [h2n, hm2, Nat.pow_add]
     simp only [Nat.mul_assoc, Nat.mul_left_comm, Nat.mul_comm]
    rw [e3, Nat.pow_succ, Nat.mul_assoc]
    have e4 : 65536 ^ (q + t) * m = 65536 ^ (q + t) * (m % 65536) + 65536 ^ (q + t) * (65536 * (m / 65536)) := by rw [← Nat.mul_add, Nat.mod_add_div]
    omega
   rw [← hval]; exact hp2
  ·have htl : t = a.l := by have := dF h3; omega
   rw [htl, Nat.mod_eq_of_lt ha.lt] at hr
   refine hKe _ _ ?_
   show W Tryz.prog 53 F35.p1 _ wr _
   refine F35.t1 z.a z.l z.c ⟨rfl, trivial⟩ fun B4 => (c16 z _ wr hr.rh (by omega)).mono ?_
   rintro e4 w4 ⟨r4, rfl, h4, hw⟩
   subst hw
   refine ⟨_, _, _, rfl, fun B5 => ret1 rfl rfl ⟨r4, rfl, h4, ?_, hr.ch⟩⟩
   have := h4.nm z.l hr.lt
   omega
theorem c24 (a b : Sl) (A B : Nat) (w : World) (hG : GB ≤ w.heap.size) (ha : Rh w a A) (hb : Rh w b B) (hl : a.l ≤ 100000) (hl2 : b.l ≤ 100000) :
  Calls Tryz.prog 24 #[a.v, b.v] w fun e w' => ∃ r : Sl, e = .returned r.v ∧ Hn w' r (A * B) ∧ r.l ≤ a.l + b.l ∧ Chg w w' none2 := by
 refine (F24.call a.a a.l a.c b.a b.l b.c w (fun v w' => ∃ r : Sl, v = r.v ∧ Hn w' r (A * B) ∧ r.l ≤ a.l + b.l ∧ Chg w w' none2) fun B0 => ?_).mono fun e w' ⟨v, h1, r, h2, h3⟩ => ⟨r, by rw [h1, h2], h3⟩
 refine ⟨by unfold inI64; omega, a.l + b.l, a.l + b.l, by omega, by omega, Nat.le_refl _, by omega, by omega, fun B1 => ?_⟩
 have ho := Ho.make hG (Chg.refl w none2) (a.l + b.l) (by omega)
 obtain ⟨z, hz⟩ : ∃ z : Sl, z = ⟨some ⟨w.heap.size, 0, none⟩, a.l + b.l, a.l + b.l, w.heap.size, 0⟩ := ⟨_, rfl⟩
 rw [← hz] at ho
 have hzv : Value.slice (some ⟨w.heap.size, 0, none⟩) (a.l + b.l) (a.l + b.l) = z.v := by rw [hz]
 have hzl : z.l = a.l + b.l := by rw [hz]
 rw [F24.q3]
 refine W_for' (σ := Nat) (fun i => F24.l2 b.a b.l b.c z.a z.l z.c a.a a.l a.c (a.l : Int) (i : Int)) (fun i w' => i ≤ a.l ∧ Ho w w' z (A % 65536 ^ i * B)) (fun i => a.l - i) 0
  ⟨rfl, hzv, rfl, rfl, rfl, trivial⟩ ⟨Nat.zero_le _, by rw [Nat.pow_zero, Nat.mod_one, Nat.zero_mul]; exact ho⟩ ?_
 rintro i B2 wr K2 ⟨hi, hr⟩ hKn hKe _
 refine F24.t2 b.a b.l b.c z.a z.l z.c a.a a.l a.c _ _ ⟨rfl, rfl, rfl, rfl, rfl, trivial⟩ fun B3 => bc_intro (fun h3 B4 => ?_) (fun h3 B4 => ?_)
 ·have hlt : i < a.l := by have := dT h3; omega
  obtain ⟨T, hT⟩ : ∃ T, T = A % 65536 ^ i * B := ⟨_, rfl⟩
  rw [← hT] at hr
  have hTlt : T < 65536 ^ (i + b.l) := by
   rw [hT, Nat.pow_add]
   exact Nat.mul_lt_mul_of_le_of_lt (Nat.le_of_lt (Nat.mod_lt A (hpos i))) hb.lt (hpos i)
  have ra := ha.keep hr.ch
  obtain ⟨x, hx⟩ : ∃ x, x = hg A i := ⟨_, rfl⟩
  have hx2 : x < 65536 := by rw [hx]; exact hg_lt A i
  rw [F24.q6]
  refine W_block (F24.t5 b.a b.l b.c z.a z.l z.c a.a a.l a.c _ _ ⟨rfl, rfl, rfl, rfl, rfl, trivial⟩ fun B5 => rdR (k := i) ra rfl hlt fun B6 => ?_)
  rw [← hx, F24.q9]
  refine W_for' (σ := Nat × Nat) (fun s => F24.l8 b.a b.l b.c z.a z.l z.c (i : Int) (x : Int) (s.2 : Int) a.a a.l a.c (a.l : Int) (i : Int) b.a b.l b.c (b.l : Int) (s.1 : Int))
   (fun s w' => s.1 ≤ b.l ∧ s.2 < 65536 ∧ ∃ V, Ho w w' z V ∧ V + 65536 ^ (i + s.1) * s.2 = T + 65536 ^ i * (x * (B % 65536 ^ s.1)) ∧ ∀ k, i + s.1 ≤ k → hg V k = hg T k) (fun s => b.l - s.1) (0, 0)
   ⟨rfl, rfl, rfl, rfl, rfl, rfl, rfl, rfl, rfl, rfl, rfl, trivial⟩ ⟨Nat.zero_le _, by decide, T, hr, by simp [Nat.mod_one], fun k _ => rfl⟩ ?_
  rintro ⟨j, c⟩ B7 wq K3 ⟨hj, hc, V, hv, hV, hk⟩ hKn3 hKe3 _
  simp only at hj hc hV hk
  have rb := hb.keep hv.ch
  refine F24.t8 b.a b.l b.c z.a z.l z.c (i : Int) (x : Int) (c : Int) a.a a.l a.c (a.l : Int) (i : Int) b.a b.l b.c (b.l : Int) (j : Int) ⟨rfl, rfl, rfl, rfl, rfl, rfl, rfl, rfl, rfl, rfl, rfl, trivial⟩ fun B8 => bc_intro (fun h4 => ?_) (fun h4 B9 => ?_)
  ·have hjl : j < b.l := by have := dT h4; omega
   obtain ⟨y, hy⟩ : ∃ y, y = hg B j := ⟨_, rfl⟩
   have hy2 : y < 65536 := by rw [hy]; exact hg_lt B j
   obtain ⟨u, hu⟩ : ∃ u, u = hg V (i + j) := ⟨_, rfl⟩
   have hu2 : u < 65536 := by rw [hu]; exact hg_lt V (i + j)
   have hxy : x * y ≤ 65535 * 65535 := Nat.mul_le_mul (by omega) (by omega)
   obtain ⟨p, hp⟩ : ∃ p, p = x * y := ⟨_, rfl⟩
   rw [← hp] at hxy
   obtain ⟨S, hS⟩ : ∃ S, S = c + (u + p) := ⟨_, rfl⟩
   refine rdR (k := j) rb rfl hjl ⟨by unfold inI64; omega, rdR (k := i + j) hv.rh (by omega) (by omega) ?_⟩
   rw [← hy, ← hu, mulN, ← hp]
   have hSi : (c : Int) + ((u : Int) + (p : Int)) = (S : Int) := by omega
   rw [hSi, rem16 S, quo16 S (by omega)]
   have hq := hv.put (i := i + j) (d := S % 65536) (by omega) (Nat.mod_lt _ (by omega))
   refine ⟨by unfold inI64; omega, by unfold inI64; omega, by unfold inI64; omega, by unfold inI64; omega, by decide, wtC (k := i + j) hv.toSt.wt (by omega) (by omega) ⟨by decide, by unfold inI64; omega, fun B9 => hKn3 _ _ (j + 1, S / 65536) ⟨rfl, rfl, rfl, rfl, rfl, rfl, rfl, rfl, rfl, rfl, intv (by omega), trivial⟩ rfl ⟨hjl, by show S / 65536 < 65536; omega, _, hq, ?_, fun k hk2 => ?_⟩ (by show b.l - (j + 1) < b.l - j; omega)⟩⟩
   ·have e1 := setH_add V (i + j) (S % 65536)
    rw [← hu] at e1
    show setH V (i + j) (S % 65536) + 65536 ^ (i + j + 1) * (S / 65536) = T + 65536 ^ i * (x * (B % 65536 ^ (j + 1)))
    rw [hmod_succ B j, ← hy, Nat.mul_add, Nat.mul_add, show x * (65536 ^ j * y) = 65536 ^ j * p by rw [hp, Nat.mul_left_comm], ← Nat.mul_assoc (65536 ^ i) (65536 ^ j) p, ← Nat.pow_add, Nat.pow_succ, Nat.mul_assoc]
    have e2 := congrArg (65536 ^ (i + j) * ·) (show S % 65536 + 65536 * (S / 65536) = c + (u + p) by omega)
    simp only [Nat.mul_add] at e2
    omega
   ·have hk2 : i + (j + 1) ≤ k := hk2
    rw [hg_setH _ _ _ _ (Nat.mod_lt _ (by omega)), if_neg (by omega)]
    exact hk k (by omega)
  ·have hjl : j = b.l := by have := dF h4; omega
   subst hjl
   rw [Nat.mod_eq_of_lt hb.lt] at hV
   refine hKe3 _ _ ?_
   show W Tryz.prog 63 F24.p7 _ wq _
   refine F24.t7 b.a b.l b.c z.a z.l z.c (i : Int) (c : Int) a.a a.l a.c (a.l : Int) (i : Int) ⟨rfl, rfl, rfl, rfl, rfl, rfl, rfl, trivial⟩ fun B10 => ⟨by unfold inI64; omega, ?_⟩
   have hq := hv.put (i := i + b.l) (d := c) (by omega) hc
   refine wtC (k := i + b.l) hv.toSt.wt (by omega) (by omega) fun B11 => ?_
   show W Tryz.prog 63 F24.p4 _ _ K2
   refine F24.t4 b.a b.l b.c z.a z.l z.c a.a a.l a.c (a.l : Int) (i : Int) ⟨rfl, rfl, rfl, rfl, rfl, trivial⟩ fun B12 => ⟨by unfold inI64; omega, fun B13 => hKn _ _ (i + 1) ⟨rfl, rfl, rfl, rfl, intv (by omega), trivial⟩ rfl ⟨hlt, ?_⟩ (by omega)⟩
   have hval : setH V (i + b.l) c = A % 65536 ^ (i + 1) * B := by
    have e1 := setH_add V (i + b.l) c
    rw [hk _ (Nat.le_refl _), hg_of_lt T _ hTlt, Nat.mul_zero, Nat.add_zero] at e1
    rw [e1, hV, hmod_succ A i, Nat.add_mul, ← hT, ← hx, Nat.mul_assoc]
   rw [← hval]; exact hq
 ·have hil : i = a.l := by have := dF h3; omega
  rw [hil, Nat.mod_eq_of_lt ha.lt] at hr
  refine hKe _ _ ?_
  show W Tryz.prog 63 F24.p1 _ wr _
  refine F24.t1 z.a z.l z.c ⟨rfl, trivial⟩ fun B4 => (c16 z _ wr hr.rh (by omega)).mono ?_
  rintro e4 w4 ⟨r4, rfl, h4, hw⟩
  subst hw
  refine ⟨_, _, _, rfl, fun B5 => ret1 rfl rfl ⟨r4, rfl, h4, ?_, hr.ch⟩⟩
  have := h4.nm z.l hr.lt
  omega
end Go.Proofs.YtlkjiiibmfpbcaaGreatDoor
