/- The figures of a number to a base that is a power of two: the whole; leading noughts left out. Conditions: the number fits the buffer. -/
import Derived.KernelRfl
import Derived.Test.YtlkjiiibmfpbcaaGreatDoorR41
import Derived.Test.YtlkjiiibmfpbcaaGreatDoorR05
import Derived.Test.YtlkjiiibmfpbcaaGreatDoorR32
import Derived.Test.YtlkjiiibmfpbcaaGreatDoorR07
namespace Go.Proofs.YtlkjiiibmfpbcaaGreatDoor
open Go
section
variable {w : World} {x s : Sl} {X sh : Nat} {L : List Item}
theorem pow_eq (sh j : Nat) : (2 ^ sh) ^ j = 2 ^ (sh * j) := (Nat.pow_mul 2 sh j).symm
theorem last4 {g : Nat → Value} {i : Nat} (hb : Bank w (seg s g :: L)) (hd : Done (2 ^ sh) X s i g) (hi : i ≤ s.l) (hsl : s.l ≤ 1000000) (hsh1 : 1 ≤ sh) (hsh : sh ≤ 5) (hX : X < (2 ^ sh) ^ s.l) (hw64 : X / 2 ^ (sh * (s.l - i)) < 18446744073709551616) (htop : i ≠ s.l → X / 2 ^ (sh * (s.l - i - 1)) ≠ 0) {e : Env} {K0 : Kont}
  (ha : agree e (F41.l3 false i s.a s.l s.c sh (2 ^ sh - 1 : Nat) (X / 2 ^ (sh * (s.l - i)) : Nat)))
  (q : ∀ e' w' i' g', Bank w' (seg s g' :: L) → Done (2 ^ sh) X s i' g' → i' ≤ s.l → X / 2 ^ (sh * (s.l - i')) = 0 → (i' ≠ s.l → X / 2 ^ (sh * (s.l - i' - 1)) ≠ 0) → Chg w w' (wds s) → agree e' (F41.l5 false (i' : Nat) s.a s.l s.c) → e'.defers = e.defers → K0 .normal e' w') :
  W Tryz.prog 176 F41.p4 e w K0 := by
 rw [F41.q4]
 refine W_for' (σ := Nat) (fun i => F41.l3 false i s.a s.l s.c sh (2 ^ sh - 1 : Nat) (X / 2 ^ (sh * (s.l - i)) : Nat)) (fun i1 w' => i1 ≤ i ∧ Chg w w' (wds s) ∧ X / 2 ^ (sh * (s.l - i1)) < 18446744073709551616 ∧ (i1 ≠ s.l → X / 2 ^ (sh * (s.l - i1 - 1)) ≠ 0) ∧ ∃ g, Bank w' (seg s g :: L) ∧ Done (2 ^ sh) X s i1 g) (fun i => i) i ha ⟨Nat.le_refl _, Chg.refl _ _, hw64, htop, g, hb, hd⟩ ?_
 rintro i1 B1 w1 K1 ⟨hi1, c1, hv64, ht1, g1, b1, hd1⟩ hnext hexit -
 obtain ⟨v, hv⟩ : ∃ v, v = X / 2 ^ (sh * (s.l - i1)) := ⟨_, rfl⟩
 rw [← hv] at hv64 ⊢
 refine F41.t3 false i1 s.a s.l s.c sh (2 ^ sh - 1 : Nat) v ⟨rfl, rfl, rfl, rfl, rfl, intv (by rw [hv]), trivial⟩ fun B2 => bc_intro (fun hc => ?_) (fun hc B3 => ?_)
 ·have hv0 : v ≠ 0 := by have := neN hc; omega
  have hj : s.l - i1 < s.l := by
   rcases Nat.lt_or_ge (s.l - i1) s.l with h | h
   ·exact h
   ·exfalso
    apply hv0
    rw [hv, show s.l - i1 = s.l by omega]
    exact Nat.div_eq_of_lt (by rw [← pow_eq]; exact hX)
  obtain ⟨p, rfl⟩ : ∃ p, i1 = p + 1 := ⟨i1 - 1, by omega⟩
  have S1 : SegAt w1 s g1 := b1.head
  have hdl : v % 2 ^ sh < 62 := by
   have h1 := Nat.mod_lt v (Nat.two_pow_pos sh)
   have h2 : 2 ^ sh ≤ 2 ^ 5 := Nat.pow_le_pow_right (by omega) hsh
   omega
  obtain ⟨c, hc1, hc2⟩ := digAt hdl
  have hD : v % 2 ^ sh = X / 2 ^ (sh * (s.l - (p + 1))) % 2 ^ sh := by rw [hv]
  obtain ⟨g2, b2, hd2, c2⟩ := putF b1 hd1 (by omega) hD hsh hc2
  have e1 : sh * (s.l - p) = sh * (s.l - (p + 1)) + sh := by rw [show s.l - p = s.l - (p + 1) + 1 by omega, Nat.mul_succ]
  have ew : iShr .u64 (v : Int) (sh : Int) = ((X / 2 ^ (sh * (s.l - p)) : Nat) : Int) := by
   rw [iShrN, show min sh 64 = sh by omega, hv, Nat.div_div_eq_div_mul, ← Nat.pow_add, e1]
  have hlt : X / 2 ^ (sh * (s.l - p)) < 18446744073709551616 := by
   rw [e1, Nat.pow_add, ← Nat.div_div_eq_div_mul, ← hv]
   exact Nat.lt_of_le_of_lt (Nat.div_le_self _ _) hv64
  refine ⟨by unfold inI64; omega, v % 2 ^ sh, c, iAndMask v sh (by omega) hv64, hc1, wtC (k := p) S1.toSt.wt (by omega) (by omega) ⟨by omega, fun B3 => ?_⟩⟩
  refine hnext _ _ p ⟨rfl, intv (by omega), rfl, rfl, rfl, intv ew, trivial⟩ rfl ⟨by omega, c1.trans' c2, hlt, fun _ => ?_, g2, b2, hd2⟩ (by omega)
  rw [show s.l - p - 1 = s.l - (p + 1) by omega, ← hv]; exact hv0
 ·have hv0 : X / 2 ^ (sh * (s.l - i1)) = 0 := by have := neE hc; omega
  exact hexit _ _ (q _ w1 i1 g1 b1 hd1 (by omega) hv0 ht1 c1 ⟨rfl, rfl, rfl, trivial⟩ rfl)
theorem words7 {g : Nat → Value} (hb : Bank w (seg s g :: nl x X :: L)) (hx0 : x.l ≠ 0) (hxt : BB ^ (x.l - 1) ≤ X) (hxl : x.l ≤ 1000) (hsl : s.l ≤ 1000000) (hsh1 : 1 ≤ sh) (hsh : sh ≤ 5) (hX : X < (2 ^ sh) ^ s.l) {e : Env} {K0 : Kont}
  (ha : agree e (F41.l6 x.a x.l x.c false s.l s.a s.l s.c sh (2 ^ sh - 1 : Nat) (dg X 0 : Nat) 64 1))
  (q : ∀ e' w' i' g', Bank w' (seg s g' :: nl x X :: L) → Done (2 ^ sh) X s i' g' → i' ≤ s.l → (i' ≠ s.l → X / 2 ^ (sh * (s.l - i' - 1)) ≠ 0) → X / 2 ^ (sh * (s.l - i')) < 18446744073709551616 → Chg w w' (wds s) → agree e' (F41.l3 false (i' : Nat) s.a s.l s.c sh (2 ^ sh - 1 : Nat) (X / 2 ^ (sh * (s.l - i')) : Nat)) → e'.defers = e.defers → K0 .normal e' w') :
  W Tryz.prog 176 F41.p7 e w K0 := by
 have xN : Nt w x X := hb.tail.head
 have hxc := xN.lc
 have hroom : ∀ j, sh * j ≤ 64 * (x.l - 1) → j < s.l := fun j hj => by
  have h1 : 2 ^ (sh * j) ≤ 2 ^ (64 * (x.l - 1)) := Nat.pow_le_pow_right (by omega) hj
  rw [← BB2] at h1
  have h2 : 2 ^ (sh * j) < 2 ^ (sh * s.l) := by rw [← pow_eq sh s.l]; omega
  have := (Nat.pow_lt_pow_iff_right (show 1 < 2 by omega)).1 h2
  exact Nat.lt_of_mul_lt_mul_left this
 rw [F41.q7]
 refine W_for' (σ := Nat × Nat × Nat) (fun y => F41.l6 x.a x.l x.c false y.1 s.a s.l s.c sh (2 ^ sh - 1 : Nat) (X % BB ^ y.2.2 / 2 ^ (sh * (s.l - y.1)) : Nat) y.2.1 y.2.2) (fun y w' => y.1 ≤ s.l ∧ sh * (s.l - y.1) + y.2.1 = 64 * y.2.2 ∧ y.2.1 ≤ 64 ∧ 64 < y.2.1 + sh ∧ 1 ≤ y.2.2 ∧ y.2.2 ≤ x.l ∧ Chg w w' (wds s) ∧ ∃ g, Bank w' (seg s g :: nl x X :: L) ∧ Done (2 ^ sh) X s y.1 g) (fun y => x.l - y.2.2) (s.l, 64, 1)
  ⟨ha.1, ha.2.1, ha.2.2.1, ha.2.2.2.1, ha.2.2.2.2.1, ha.2.2.2.2.2.1, by
   have h7 := ha.2.2.2.2.2.2.1
   show _ = Value.int .u64 ((X % BB ^ 1 / 2 ^ (sh * (s.l - s.l)) : Nat) : Int)
   rw [Nat.sub_self, Nat.mul_zero, Nat.pow_zero, Nat.div_one, mod_succ, Nat.pow_zero, Nat.mod_one, Nat.zero_add, Nat.one_mul]; exact h7, ha.2.2.2.2.2.2.2⟩
  ⟨Nat.le_refl _, by show sh * (s.l - s.l) + 64 = 64 * 1; rw [Nat.sub_self, Nat.mul_zero], by show 64 ≤ 64; omega, by show 64 < 64 + sh; omega, by show 1 ≤ 1; omega, by show 1 ≤ x.l; omega, Chg.refl _ _, g, hb, fun j h1 h2 => by have h1 : s.l ≤ j := h1; omega⟩ ?_
 rintro ⟨i, nb, k⟩ B1 w1 K1 ⟨hi, hbits, hnb, hnb2, hk1, hk2, c1, g1, b1, hd1⟩ hnext hexit -
 simp only at hi hbits hnb hnb2 hk1 hk2 hd1
 refine F41.t6 x.a x.l x.c false i s.a s.l s.c sh (2 ^ sh - 1 : Nat) (X % BB ^ k / 2 ^ (sh * (s.l - i)) : Nat) nb k ⟨rfl, rfl, rfl, rfl, rfl, rfl, rfl, rfl, rfl, trivial⟩ fun B2 => bc_intro (fun hc B3 => ?_) (fun hc B3 => ?_)
 ·have hkx : k < x.l := by have := dT hc; omega
  rw [F41.q13]
  refine W_block ?_
  refine F41.t12 x.a x.l x.c false i s.a s.l s.c sh (2 ^ sh - 1 : Nat) (X % BB ^ k / 2 ^ (sh * (s.l - i)) : Nat) nb k ⟨rfl, rfl, rfl, rfl, rfl, rfl, rfl, rfl, rfl, trivial⟩ fun B4 B5 => ?_
  refine in16 (x := x) (k := k) (nb := nb) b1 hd1 hi hsl hsh1 hsh hbits hnb rfl (fun j hj => hroom j (by omega)) ⟨rfl, rfl, rfl, rfl, rfl, rfl, rfl, rfl, rfl, trivial⟩ fun e2 w2 i2 g2 nb2 wd2 b2 hd2 hi2 hbits2 hnb3 hwd2 c2 ha2 hdf2 => ?_
  have xN2 : Nt w2 x X := b2.tail.head
  have hcell : w2.cell? ⟨x.b, x.o + k, none⟩ = some (.int .u64 (dg X k : Int)) := xN2.sg k hkx
  have hdk := dg_lt' X k
  have hsplit := mod_succ X k
  have hwb : wd2 < 2 ^ nb2 := by
   rw [hwd2, Nat.div_lt_iff_lt_mul (Nat.two_pow_pos _), ← Nat.pow_add, show nb2 + sh * (s.l - i2) = 64 * k by omega, ← BB2]
   exact Nat.mod_lt _ (BBpow_pos k)
  have hjoin : X % BB ^ (k + 1) / 2 ^ (sh * (s.l - i2)) = wd2 + 2 ^ nb2 * dg X k := by
   rw [hsplit, BB2 k]
   have e : (2 : Nat) ^ (64 * k) * dg X k = 2 ^ (sh * (s.l - i2)) * (2 ^ nb2 * dg X k) := by rw [← Nat.mul_assoc, ← Nat.pow_add, hbits2]
   rw [e, Nat.add_mul_div_left _ _ (Nat.two_pow_pos _), ← BB2, ← hwd2]
  have nextk : ∀ (e3 : Env) (w3 : World) (i3 nb3 : Nat) (g3 : Nat → Value), Bank w3 (seg s g3 :: nl x X :: L) → Done (2 ^ sh) X s i3 g3 → i3 ≤ i → sh * (s.l - i3) + nb3 = 64 * (k + 1) → nb3 ≤ 64 → 64 < nb3 + sh → Chg w w3 (wds s) → agree e3 (F41.l11 x.a x.l x.c false (i3 : Nat) s.a s.l s.c sh (2 ^ sh - 1 : Nat) (X % BB ^ (k + 1) / 2 ^ (sh * (s.l - i3)) : Nat) (nb3 : Nat) k) → e3.defers = e.defers → W Tryz.prog 176 F41.p11 e3 w3 K1 := by
   intro e3 w3 i3 nb3 g3 b3 hd3 hi3 hbits3 h1 h2 c3 ha3 hdf3
   refine F41.t11 x.a x.l x.c false i3 s.a s.l s.c sh (2 ^ sh - 1 : Nat) (X % BB ^ (k + 1) / 2 ^ (sh * (s.l - i3)) : Nat) nb3 k ha3 fun B6 => ⟨by unfold inI64; omega, fun B7 => hnext _ _ (i3, nb3, k + 1) ⟨rfl, rfl, rfl, rfl, rfl, rfl, rfl, rfl, intv (by show (k : Int) + 1 = ((k + 1 : Nat) : Int); omega), trivial⟩ hdf3 ⟨by show i3 ≤ s.l; omega, hbits3, h1, h2, by show 1 ≤ k + 1; omega, by show k + 1 ≤ x.l; omega, c3, g3, b3, hd3⟩ (by show x.l - (k + 1) < x.l - k; omega)⟩
  refine F41.t14 x.a x.l x.c false i2 s.a s.l s.c sh (2 ^ sh - 1 : Nat) wd2 nb2 k ha2 fun B6 => bc_intro (fun h0 => ?_) (fun h0 => ?_)
  ·have hn0 : nb2 = 0 := by have := eqE h0; omega
   subst hn0
   have hw0 : wd2 = 0 := by rw [Nat.pow_zero] at hwb; omega
   refine rdC (k := k) (xN2.rd.at_ (by omega)) rfl hkx hcell fun B7 => ?_
   refine nextk _ w2 i2 64 g2 b2 hd2 hi2 (by omega) (by omega) (by omega) (c1.trans' c2) ?_ hdf2
   rw [hjoin, hw0, Nat.pow_zero, Nat.one_mul, Nat.zero_add]
   exact ⟨rfl, rfl, rfl, rfl, rfl, rfl, rfl, rfl, rfl, trivial⟩
  ·have hn0 : nb2 ≠ 0 := by have := eqN h0; omega
   have hj : s.l - i2 < s.l := hroom _ (by omega)
   obtain ⟨p, rfl⟩ : ∃ p, i2 = p + 1 := ⟨i2 - 1, by omega⟩
   have S2 : SegAt w2 s g2 := b2.head
   obtain ⟨o1, o2⟩ := or_low (x := dg X k) (sh := sh) hwb (by omega) (by omega)
   have hv64 : wd2 < 18446744073709551616 := Nat.lt_of_lt_of_le hwb (by
    have h1 : 2 ^ nb2 ≤ 2 ^ 64 := Nat.pow_le_pow_right (by omega) (by omega)
    have p64 : (18446744073709551616 : Nat) = 2 ^ 64 := by decide
    omega)
   have eor : iAnd .u64 (iOr .u64 (wd2 : Int) (iShl .u64 ((dg X k : Nat) : Int) (nb2 : Int))) ((2 ^ sh - 1 : Nat) : Int) = (((wd2 + 2 ^ nb2 * dg X k) % 2 ^ sh : Nat) : Int) := by
    rw [iShlN, show min nb2 64 = nb2 by omega, iOrN _ _ hv64 (Nat.mod_lt _ (by omega)), iAndMask _ sh (by omega) o2, o1]
   have hdl : (wd2 + 2 ^ nb2 * dg X k) % 2 ^ sh < 62 := by
    have h1 := Nat.mod_lt (wd2 + 2 ^ nb2 * dg X k) (Nat.two_pow_pos sh)
    have h2 : 2 ^ sh ≤ 2 ^ 5 := Nat.pow_le_pow_right (by omega) hsh
    omega
   obtain ⟨c, hc1, hc2⟩ := digAt hdl
   have hD : (wd2 + 2 ^ nb2 * dg X k) % 2 ^ sh = X / 2 ^ (sh * (s.l - (p + 1))) % 2 ^ sh := by
    rw [← hjoin, BB2, low_bits _ _ _ _ (by omega)]
   obtain ⟨g3, b3, hd3, c3⟩ := putF b2 hd2 (by omega) hD hsh hc2
   have e1 : sh * (s.l - p) = sh * (s.l - (p + 1)) + sh := by rw [show s.l - p = s.l - (p + 1) + 1 by omega, Nat.mul_succ]
   have xN3 : Nt (w2.setCell ⟨s.b, s.o + p, none⟩ (.int .u8 (c.toNat : Int))) x X := b3.tail.head
   have ed : IntKind.wrap .u64 ((sh : Int) - nb2) = ((sh - nb2 : Nat) : Int) := by rw [show ((sh : Int) - nb2) = ((sh - nb2 : Nat) : Int) by omega]; exact wrapN _ (by omega)
   have ed2 : IntKind.wrap .u64 (64 - ((sh - nb2 : Nat) : Int)) = ((64 - (sh - nb2) : Nat) : Int) := by rw [show (64 - ((sh - nb2 : Nat) : Int)) = ((64 - (sh - nb2) : Nat) : Int) by omega]; exact wrapN _ (by omega)
   have ew : iShr .u64 ((dg X k : Nat) : Int) ((sh - nb2 : Nat) : Int) = ((X % BB ^ (k + 1) / 2 ^ (sh * (s.l - p)) : Nat) : Int) := by
    rw [iShrN, show min (sh - nb2) 64 = sh - nb2 by omega, e1, Nat.pow_add 2 (sh * (s.l - (p + 1))) sh, ← Nat.div_div_eq_div_mul, hjoin]
    have e2 : (2 : Nat) ^ sh = 2 ^ nb2 * 2 ^ (sh - nb2) := by rw [← Nat.pow_add, show nb2 + (sh - nb2) = sh by omega]
    rw [e2, ← Nat.div_div_eq_div_mul, Nat.add_mul_div_left _ _ (Nat.two_pow_pos _), Nat.div_eq_of_lt hwb, Nat.zero_add]
   refine rdC (k := k) (xN2.rd.at_ (by omega)) rfl hkx hcell ⟨by omega, by unfold inI64; omega, _, c, eor, hc1, wtC (k := p) S2.toSt.wt (by omega) (by omega) (rdC (k := k) (xN3.rd.at_ (by omega)) rfl hkx (xN3.sg k hkx) ?_)⟩
   rw [ed, ed2, ew]
   refine ⟨by omega, fun B7 => ?_⟩
   refine nextk _ _ p (64 - (sh - nb2)) g3 b3 hd3 (by omega) (by omega) (by omega) (by omega) ((c1.trans' c2).trans' c3) ?_ hdf2
   exact ⟨rfl, rfl, intv (by omega), rfl, rfl, rfl, rfl, rfl, rfl, trivial⟩
 ·have hkx : k = x.l := by have := dF hc; omega
  subst hkx
  have hXm : X % BB ^ x.l = X := Nat.mod_eq_of_lt xN.lt
  refine hexit _ _ (q _ w1 i g1 b1 hd1 hi (fun hne => ?_) ?_ c1 ?_ rfl)
  ·have h1 : 2 ^ (sh * (s.l - i - 1)) ≤ X := by
    refine Nat.le_trans (Nat.pow_le_pow_right (by omega) ?_) (by rw [BB2] at hxt; exact hxt)
    have e1 : sh * (s.l - i) = sh * (s.l - i - 1) + sh := by rw [← Nat.mul_succ, show (s.l - i - 1).succ = s.l - i by omega]
    omega
   have := Nat.div_pos h1 (Nat.two_pow_pos (sh * (s.l - i - 1)))
   omega
  ·rw [Nat.div_lt_iff_lt_mul (Nat.two_pow_pos _)]
   have p64 : (18446744073709551616 : Nat) = 2 ^ 64 := by decide
   rw [p64, ← Nat.pow_add]
   refine Nat.lt_of_lt_of_le xN.lt ?_
   rw [BB2]
   exact Nat.pow_le_pow_right (by omega) (by omega)
  ·rw [hXm]
   exact ⟨rfl, rfl, rfl, rfl, rfl, rfl, trivial⟩
end
end Go.Proofs.YtlkjiiibmfpbcaaGreatDoor
namespace Go.Proofs.YtlkjiiibmfpbcaaGreatDoor
open Go
theorem dio {b n bl p q p' q' : Nat} (h1 : p * q' = p' * q + 1) (h2 : 2 ^ p' ≤ b ^ q') (hb : b ^ n < 2 ^ bl) (hn : n < q + q') : n * p ≤ bl * q := by
 rcases Nat.lt_or_ge (bl * q) (n * p) with hlt | hge
 ·exfalso
  have hq0 : q' ≠ 0 := fun e => by rw [e, Nat.mul_zero] at h1; omega
  have h3 : 2 ^ (p' * n) < 2 ^ (bl * q') := by
   rw [Nat.pow_mul, Nat.pow_mul]
   refine Nat.lt_of_le_of_lt (Nat.pow_le_pow_left h2 n) ?_
   rw [← Nat.pow_mul, Nat.mul_comm, Nat.pow_mul]
   exact Nat.pow_lt_pow_left hb hq0
  have h4 := (Nat.pow_lt_pow_iff_right (show 1 < 2 by omega)).1 h3
  have e1 : n + q * (p' * n) = q' * (n * p) := by
   have := congrArg (n * ·) h1
   simp only [Nat.mul_add, Nat.mul_one] at this
   have e2 : q' * (n * p) = n * (p * q') := by simp only [Nat.mul_comm, Nat.mul_left_comm]
   have e3 : q * (p' * n) = n * (p' * q) := by simp only [Nat.mul_comm, Nat.mul_left_comm]
   omega
  have e4 : q' * (bl * q + 1) ≤ q' * (n * p) := Nat.mul_le_mul_left _ hlt
  have e5 : q * (p' * n + 1) ≤ q * (bl * q') := Nat.mul_le_mul_left _ h4
  rw [Nat.mul_add, Nat.mul_one] at e4 e5
  have e6 : q' * (bl * q) = q * (bl * q') := by simp only [Nat.mul_comm, Nat.mul_left_comm]
  omega
 ·exact hge
end Go.Proofs.YtlkjiiibmfpbcaaGreatDoor
namespace Go.Proofs.YtlkjiiibmfpbcaaGreatDoor
open Go
def logOk (x : Nat × Nat × Nat × Nat × Nat × Nat) : Bool :=
 match x with
 | (b, c, p, q, p', q') => Nat.beq (p * q') (p' * q + 1) && Nat.ble (2 ^ p') (b ^ q') && Nat.ble 16700 (q + q') && Nat.ble ((2 ^ 52 + c % 2 ^ 52) * q) (p * 2 ^ (1075 - c / 2 ^ 52))
end Go.Proofs.YtlkjiiibmfpbcaaGreatDoor
namespace Go.Proofs.YtlkjiiibmfpbcaaGreatDoor
open Go
structure LgRun (x fr a m t r : Nat) (ex : Int) : Prop where
 r1 : ∀ w, Sem.run Tryz.prog (callFunc 175 #[.float .f64 x]) w = .ok (.value (.int .u64 (x : Int))) w
 r2 : ∀ w, Sem.run Tryz.prog (callFunc 176 #[.int .u64 (iAndNot .u64 (x : Int) 9223372036854775808)]) w = .ok (.value (.float .f64 x)) w
 q1 : ∀ w, Sem.run Tryz.prog (do eqGuard .eql 80 (Operand.tmp 6) (Operand.const (Value.float FloatKind.f64 0)) (.float .f64 x) (Value.float FloatKind.f64 0); Go.binOp .eql 80 (.float .f64 x) (Value.float FloatKind.f64 0)) w = .ok (.bool false) w
 q2 : ∀ w, Sem.run Tryz.prog (do eqGuard .gtr 80 (Operand.tmp 13) (Operand.const (Value.float FloatKind.f64 9218868437227405311)) (.float .f64 x) (Value.float FloatKind.f64 9218868437227405311); Go.binOp .gtr 80 (.float .f64 x) (Value.float FloatKind.f64 9218868437227405311)) w = .ok (.bool false) w
 q3 : ∀ w, Sem.run Tryz.prog (do eqGuard .neq 80 (Operand.tmp 3) (Operand.tmp 4) (.float .f64 x) (.float .f64 x); Go.binOp .neq 80 (.float .f64 x) (.float .f64 x)) w = .ok (.bool false) w
 q4 : ∀ w, Sem.run Tryz.prog (do eqGuard .lss 80 (Operand.tmp 5) (Operand.const (Value.float FloatKind.f64 4503599627370496)) (.float .f64 x) (Value.float FloatKind.f64 4503599627370496); Go.binOp .lss 80 (.float .f64 x) (Value.float FloatKind.f64 4503599627370496)) w = .ok (.bool false) w
 e1 : (0 + (((IntKind.wrap .i64 (iAnd .u64 (iShr .u64 (x : Int) 52) 2047)) - 1023) + 1)) = ex
 e2 : -2000 ≤ ex ∧ ex ≤ 2000
 r3 : ∀ w, Sem.run Tryz.prog (callFunc 176 #[.int .u64 (iOr .u64 (iAndNot .u64 (x : Int) 9218868437227405312) 4602678819172646912)]) w = .ok (.value (.float .f64 fr)) w
 q5 : ∀ w, Sem.run Tryz.prog (do eqGuard .eql 80 (Operand.tmp 10) (Operand.const (Value.float FloatKind.f64 4602678819172646912)) (.float .f64 fr) (Value.float FloatKind.f64 4602678819172646912); Go.binOp .eql 80 (.float .f64 fr) (Value.float FloatKind.f64 4602678819172646912)) w = .ok (.bool false) w
 r4 : ∀ w, Sem.run Tryz.prog (callFunc 156 #[.float .f64 fr]) w = .ok (.value (.float .f64 a)) w
 r5 : ∀ w, Sem.run Tryz.prog (do eqGuard .mul 80 (Operand.tmp 16) (Operand.const (Value.float FloatKind.f64 4609176140021203710)) (.float .f64 a) (Value.float FloatKind.f64 4609176140021203710); Go.binOp .mul 80 (.float .f64 a) (Value.float FloatKind.f64 4609176140021203710)) w = .ok (.float .f64 m) w
 r6 : ∀ w, Sem.run Tryz.prog (Go.convert 3 80 (.int .i64 ex)) w = .ok (.float .f64 t) w
 r7 : ∀ w, Sem.run Tryz.prog (do eqGuard .add 80 (Operand.tmp 17) (Operand.tmp 19) (.float .f64 m) (.float .f64 t); Go.binOp .add 80 (.float .f64 m) (.float .f64 t)) w = .ok (.float .f64 r) w
section
variable {x fr a m t r : Nat} {ex : Int}
theorem LgRun.c182 (h : LgRun x fr a m t r ex) : Told 182 #[.float .f64 x] (.float .f64 x) := fun w =>
 told <| F182.call x w _ fun B => ⟨w, _, h.r1 w, w, _, h.r2 w, fun B1 => ret1 rfl rfl ⟨rfl, rfl⟩⟩
theorem LgRun.c172 (h : LgRun x fr a m t r ex) : Told 172 #[.float .f64 x, .int .i64 0] (.bool false) := fun w =>
 told <| F172.call x 0 w _ fun B => bc_true rfl ((h.c182 w).mono fun e w' ⟨he, hw⟩ => by
  subst hw
  exact ⟨_, he, fun B1 => F172.t1 x ⟨rfl, trivial⟩ fun B2 => ⟨w', _, h.q2 w', fun B3 => ret1 rfl rfl ⟨rfl, rfl⟩⟩⟩)
theorem LgRun.c173 (h : LgRun x fr a m t r ex) : Told 173 #[.float .f64 x] (.bool false) := fun w =>
 told <| F173.call x w _ fun B => ⟨w, _, h.q3 w, fun B1 => ret1 rfl rfl ⟨rfl, rfl⟩⟩
theorem LgRun.c174 (h : LgRun x fr a m t r ex) : Told 174 #[.float .f64 x] (.tuple #[.float .f64 x, .int .i64 0]) := fun w =>
 told <| F174.call x w _ fun B => (h.c182 w).mono fun e w' ⟨he, hw⟩ => by
  subst hw
  exact ⟨_, he, w', _, h.q4 w', bc_false rfl fun B1 => ret2 rfl rfl rfl ⟨rfl, rfl⟩⟩
theorem LgRun.c155 (h : LgRun x fr a m t r ex) : Told 155 #[.float .f64 x] (.tuple #[.float .f64 fr, .int .i64 ex]) := fun w =>
 told <| F155.call x w _ fun B => ⟨w, _, h.q1 w, bc_false rfl ((h.c172 w).mono fun e w' ⟨he, hw⟩ => by
  subst hw
  refine ⟨_, he, bc_false rfl ((h.c173 w').mono fun e2 w2 ⟨he2, hw2⟩ => ?_)⟩
  subst hw2
  refine ⟨_, he2, bc_false rfl ((h.c174 w2).mono fun e3 w3 ⟨he3, hw3⟩ => ?_)⟩
  subst hw3
  have h1 := h.e1
  have h2 := h.e2
  refine ⟨_, trivial, _, trivial, he3, w3, _, h.r1 w3, by decide, by unfold inI64; omega, by unfold inI64; omega, by unfold inI64; omega, w3, _, h.r3 w3, fun B1 => ret2 rfl rfl rfl ⟨?_, rfl⟩⟩
  rw [← h1]
  rfl)⟩
theorem LgRun.c125 (h : LgRun x fr a m t r ex) : Told 125 #[.float .f64 x] (.tuple #[.float .f64 fr, .int .i64 ex]) := fun w =>
 told <| F125.call x w _ fun B => (h.c155 w).mono fun e w' ⟨he, hw⟩ => by
  subst hw
  exact ⟨_, trivial, _, trivial, he, fun B1 => ret2 rfl rfl rfl ⟨rfl, rfl⟩⟩
theorem LgRun.c126 (h : LgRun x fr a m t r ex) : Told 126 #[.float .f64 fr] (.float .f64 a) := fun w =>
 told <| F126.call fr w _ fun B => ⟨w, _, h.r4 w, fun B1 => ret1 rfl rfl ⟨rfl, rfl⟩⟩
theorem LgRun.c86 (h : LgRun x fr a m t r ex) : Told 86 #[.float .f64 x] (.float .f64 r) := fun w =>
 told <| F86.call x w _ fun B => (h.c125 w).mono fun e w' ⟨he, hw⟩ => by
  subst hw
  refine ⟨_, trivial, _, trivial, he, w', _, h.q5 w', bc_false rfl ((h.c126 w').mono fun e2 w2 ⟨he2, hw2⟩ => ?_)⟩
  subst hw2
  exact ⟨_, he2, w2, _, h.r5 w2, w2, _, h.r6 w2, w2, _, h.r7 w2, fun B1 => ret1 rfl rfl ⟨rfl, rfl⟩⟩
theorem LgRun.c54 (h : LgRun x fr a m t r ex) : Told 54 #[.float .f64 x] (.float .f64 r) := fun w =>
 told <| F54.call x w _ fun B => (h.c86 w).mono fun e w' ⟨he, hw⟩ => by
  subst hw
  exact ⟨_, he, fun B1 => ret1 rfl rfl ⟨rfl, rfl⟩⟩
end
end Go.Proofs.YtlkjiiibmfpbcaaGreatDoor
