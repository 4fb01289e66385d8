/- Contracts: words one behind the other shifted by less than a word; a word added, a word taken away. Conditions: one length; what is read is not yet written over. -/
import Derived.Test.YtlkjiiibmfpbcaaGreatDoorR09
import Derived.Test.YtlkjiiibmfpbcaaGreatDoorR10
namespace Go.Proofs.YtlkjiiibmfpbcaaGreatDoor
open Go
theorem tb_dg (v i j : Nat) : (dg v i).testBit j = (decide (j < 64) && v.testBit (64 * i + j)) := by
 unfold dg
 rw [show BB = 2 ^ 64 from rfl, ← Nat.pow_mul, Nat.testBit_mod_two_pow, Nat.testBit_div_two_pow, Nat.add_comm]
theorem dg_shl (X s i : Nat) (h0 : 0 < s) (h : s < 64) : dg (X * 2 ^ s) (i + 1) = dg X (i + 1) * 2 ^ s % 18446744073709551616 ||| dg X i / 2 ^ (64 - s) := by
 rw [show 18446744073709551616 = 2 ^ 64 from rfl]
 refine Nat.eq_of_testBit_eq fun j => ?_
 simp only [tb_dg, Nat.testBit_or, Nat.testBit_mod_two_pow, Nat.testBit_mul_two_pow, Nat.testBit_div_two_pow]
 by_cases hj : j < 64
 ·by_cases hs : s ≤ j
  ·have e1 : 64 * (i + 1) + j - s = 64 * (i + 1) + (j - s) := by omega
   have e2 : s ≤ 64 * (i + 1) + j := by omega
   have e3 : ¬ (j + (64 - s) < 64) := by omega
   have e4 : j - s < 64 := by omega
   simp [hj, hs, e1, e2, e3, e4]
  ·have e1 : 64 * (i + 1) + j - s = 64 * i + (j + (64 - s)) := by omega
   have e2 : s ≤ 64 * (i + 1) + j := by omega
   have e3 : j + (64 - s) < 64 := by omega
   simp [hj, hs, e1, e2, e3]
 ·have e3 : ¬ (j + (64 - s) < 64) := by omega
  simp [hj, e3]
theorem dg_shl0 (X s : Nat) : dg (X * 2 ^ s) 0 = dg X 0 * 2 ^ s % 18446744073709551616 := by
 unfold dg; rw [Nat.pow_zero, Nat.div_one, Nat.div_one]; exact (Nat.mod_mul_mod X (2 ^ s) _).symm
theorem dg_shr (X s i : Nat) (h0 : 0 < s) (h : s < 64) : dg (X / 2 ^ s) i = dg X i / 2 ^ s ||| dg X (i + 1) * 2 ^ (64 - s) % 18446744073709551616 := by
 rw [show 18446744073709551616 = 2 ^ 64 from rfl]
 refine Nat.eq_of_testBit_eq fun j => ?_
 simp only [tb_dg, Nat.testBit_or, Nat.testBit_mod_two_pow, Nat.testBit_mul_two_pow, Nat.testBit_div_two_pow]
 by_cases hj : j < 64
 ·by_cases hs : j + s < 64
  ·have e1 : 64 * i + j + s = 64 * i + (j + s) := by omega
   have e3 : ¬ (64 - s ≤ j) := by omega
   simp [hj, hs, e1, e3]
  ·have e1 : 64 * i + j + s = 64 * (i + 1) + (j - (64 - s)) := by omega
   have e3 : 64 - s ≤ j := by omega
   have e4 : j - (64 - s) < 64 := by omega
   simp [hj, hs, e1, e3, e4]
 ·have e3 : ¬ (j + s < 64) := by omega
  simp [hj, e3]
theorem top_shl (X s n : Nat) (h : s < 64) (hX : X < BB ^ (n + 1)) : X * 2 ^ s / BB ^ (n + 1) = dg X n / 2 ^ (64 - s) := by
 have hd : dg X n = X / BB ^ n := Nat.mod_eq_of_lt (by rw [Nat.div_lt_iff_lt_mul (BBpow_pos n), Nat.mul_comm, ← BBpow_succ]; exact hX)
 rw [hd, Nat.div_div_eq_div_mul]
 have e : BB ^ (n + 1) = BB ^ n * 2 ^ (64 - s) * 2 ^ s := by
  rw [BBpow_succ, Nat.mul_assoc, ← Nat.pow_add, Nat.sub_add_cancel (by omega)]
  rfl
 rw [e]
 exact Nat.mul_div_mul_right _ _ (Nat.two_pow_pos s)
theorem cnt63 (s : Nat) (h : s < 64) : iAnd .u64 (s : Int) 63 = (s : Int) := by
 rw [show (63 : Int) = ((2 ^ 6 - 1 : Nat) : Int) from rfl, iAndMask s 6 (by omega) (by omega), Nat.mod_eq_of_lt (by omega)]
theorem cnt64 (s : Nat) (h0 : 0 < s) (h : s < 64) : iAnd .u64 (IntKind.wrap .u64 (64 - iAnd .u64 (s : Int) 63)) 63 = ((64 - s : Nat) : Int) := by
 rw [cnt63 s h, show (64 : Int) - s = ((64 - s : Nat) : Int) by omega, wrapN _ (by omega), cnt63 _ (by omega)]
theorem shl64 (a s : Nat) (h : s ≤ 64) : iShl .u64 (a : Int) (s : Int) = ((a * 2 ^ s % 18446744073709551616 : Nat) : Int) := by rw [iShlN, Nat.min_eq_left h]
theorem shr64 (a s : Nat) (h : s ≤ 64) : iShr .u64 (a : Int) (s : Int) = ((a / 2 ^ s : Nat) : Int) := by rw [iShrN, Nat.min_eq_left h]
def OvUp (z x : Sl) : Prop := x.l = 0 ∨ x.b ≠ z.b ∨ x.o ≤ z.o ∨ z.o + z.l ≤ x.o
theorem c165 (z x : Sl) (X s : Nat) (w : World) (hz : Wt w z) (hx : Rd w x X) (lx : x.l = z.l) (ox : OvUp z x) (hs : s < 64) :
  Calls Tryz.prog 165 #[z.v, x.v, .int .u64 (s : Int)] w (Vec w z fun c Z => Z + BB ^ z.l * c = X * 2 ^ s) := by
 have lm := hz.lm
 refine F165.call z.a z.l z.c x.a x.l x.c s w _
  fun B => bc_false (neF (by omega)) fun B1 => F165.t1 _ _ _ _ _ _ _ _ ⟨rfl, rfl, rfl, rfl, trivial⟩ fun B2 => bc_intro (fun hb => ?_) (fun hb => bc_intro (fun hb' B4 => ?_) (fun hb' => ?_))
 ·have h0 : s = 0 := by have := eqE hb; omega
  subst h0
  obtain ⟨w', r1, r2, r3⟩ := copyW z x z.l (by omega) X w ⟨hz.at_, hz.wr, hz.pl, hz.lm⟩ ⟨fun h0 => hx.at_ (by have : z.l ≠ 0 := h0; omega), by rw [← lx]; exact hx.sg, by show X < BB ^ z.l; rw [← lx]; exact hx.lt⟩
  refine ⟨w', _, r1, fun B3 => ret1 rfl rfl ⟨0, X, rfl, by omega, by rw [← lx]; exact hx.lt, r2, r3⟩⟩
 ·have h0 : z.l = 0 := by have := eqE hb'; omega
  have : X = 0 := by have := hx.lt; rw [lx, h0] at this; simpa using this
  subst this
  exact ret1 rfl rfl ⟨0, 0, rfl, by simp, BBpow_pos _, by rw [h0]; exact Sg.zero, Chg.refl _ _⟩
 ·have s0 : 0 < s := by have := eqN hb; omega
  obtain ⟨n, hn⟩ : ∃ n, z.l = n + 1 := ⟨z.l - 1, by have := eqN hb'; omega⟩
  have hX : X < BB ^ (n + 1) := by rw [← hn, ← lx]; exact hx.lt
  refine ⟨by unfold inI64; omega, rdC (k := n) (hx.at_ (by omega)) (by omega) (by omega) (hx.sg n (by omega)) ⟨by rw [cnt64 s s0 hs]; omega, by unfold inI64; omega, fun B3 => ?_⟩⟩
  rw [F165.q4]
  refine W_for (σ := Nat)
   (fun i => [(0, z.v), (1, x.v), (2, .int .u64 (s : Int)), (6, .int .u64 ((X * 2 ^ s / BB ^ (n + 1) : Nat) : Int)), (7, .int .u64 ((64 - s : Nat) : Int)), (8, .int .i64 (i : Int))])
   (fun i wr => i ≤ n ∧ Sg wr z.b (z.o + (i + 1)) (n - i) (X * 2 ^ s / BB ^ (i + 1)) ∧ Chg w wr (inR z.b (z.o + (i + 1)) (z.o + z.l)))
   (fun i => i) n ⟨rfl, rfl, intv (cnt63 s hs), intv ?_, intv (cnt64 s s0 hs), intv (by omega), trivial⟩
   ⟨Nat.le_refl _, by rw [Nat.sub_self]; exact Sg.zero, Chg.refl _ _⟩ ?_
  ·rw [cnt64 s s0 hs, shr64 _ _ (by omega), top_shl X s n hs hX]
  rintro i B wr ⟨hi, hsg, hch⟩
  refine F165.t3 z.a z.l z.c x.a x.l x.c s _ _ i ⟨rfl, rfl, rfl, rfl, rfl, rfl, trivial⟩ fun B1 => bc_intro (fun hb => ?_) (fun hb B2 => ?_)
  ·obtain ⟨j, rfl⟩ : ∃ j, i = j + 1 := ⟨i - 1, by have := dT hb; omega⟩
   have hni : ∀ k, k ≤ j + 1 → ¬ inR z.b (z.o + (j + 1 + 1)) (z.o + z.l) x.b (x.o + k) := by
    rintro k hk ⟨h1, h2, h3⟩; unfold OvUp at ox; omega
   refine rdC (k := j + 1) (hx.at_ (by omega)) rfl (by omega) (chgAt hch.drew hx (by omega) (hni _ (Nat.le_refl _))) ?_
   refine ⟨by omega, by unfold inI64; omega, rdC (k := j) (hx.at_ (by omega)) (by omega) (by omega) (chgAt hch.drew hx (by omega) (hni _ (by omega))) ?_⟩
   refine ⟨by omega, wtC (k := j + 1) (hch.drew.wt hz) rfl (by omega) ⟨by unfold inI64; omega, fun B3 => ?_⟩⟩
   have hp := hch.own (hz.pl (by omega))
   obtain ⟨u, hu⟩ := (hch.wr hz.wr (j + 1) (by omega)).1
   have hv : iOr .u64 (iShl .u64 (dg X (j + 1) : Int) (s : Int)) (iShr .u64 (dg X j : Int) ((64 - s : Nat) : Int)) = (dg (X * 2 ^ s) (j + 1) : Int) := by
    rw [shl64 _ _ (by omega), shr64 _ _ (by omega), iOrN _ _ (Nat.mod_lt _ (by omega)) (Nat.lt_of_le_of_lt (Nat.div_le_self _ _) (dg_lt' X j)), dg_shl X s j s0 hs]
   rw [hv]
   refine ⟨j, ⟨rfl, rfl, rfl, rfl, rfl, intv (by omega), trivial⟩, rfl, ⟨by omega, ?_, ?_⟩, by show j < j + 1; omega⟩
   ·have h1 : Sg (wr.drew.setCell ⟨z.b, z.o + (j + 1), none⟩ (.int .u64 (dg (X * 2 ^ s) (j + 1) : Int))) z.b (z.o + (j + 1)) 1 (dg (X * 2 ^ s) (j + 1)) := by
     intro k hk
     have : k = 0 := by omega
     subst this
     rw [dg_self _ (dg_lt _ _)]
     exact World.cell?_setCell_same _ _ _ hu
    have h2 : Chg wr (wr.drew.setCell ⟨z.b, z.o + (j + 1), none⟩ (.int .u64 (dg (X * 2 ^ s) (j + 1) : Int))) (inR z.b (z.o + (j + 1)) (z.o + (j + 1) + 1)) :=
     (Chg.drew0 wr _).trans' (Chg.setCell (w := wr.drew) hp _ ⟨rfl, by omega, by omega⟩)
    have h3 := Sg.join h1 (h2.sg hsg fun k hk hm => by have := hm.2.2; omega) (by rw [Nat.pow_one]; exact dg_lt _ _)
    have h4 : dg (X * 2 ^ s) (j + 1) + BB ^ 1 * (X * 2 ^ s / BB ^ (j + 1 + 1)) = X * 2 ^ s / BB ^ (j + 1) := by
     rw [BBpow_succ (j + 1), ← Nat.div_div_eq_div_mul, Nat.pow_one]; exact Nat.mod_add_div _ _
    rw [h4] at h3
    exact h3.le (by omega)
   ·refine (hch.mono fun b k _ hm => ⟨hm.1, by have := hm.2.1; omega, hm.2.2⟩).trans' ((Chg.drew0 wr _).trans' (Chg.setCell (w := wr.drew) hp _ ⟨rfl, by omega, by omega⟩))
  ·have hi0 : i = 0 := by have := dF hb; omega
   subst hi0
   have hni : ¬ inR z.b (z.o + (0 + 1)) (z.o + z.l) x.b (x.o + 0) := by
    rintro ⟨h1, h2, h3⟩; unfold OvUp at ox; omega
   refine F165.t2 z.a z.l z.c x.a x.l x.c s _ ⟨rfl, rfl, rfl, rfl, trivial⟩ fun B3 => rdC (k := 0) (hx.at_ (by omega)) rfl (by omega) (chgAt hch hx (by omega) hni) ?_
   refine ⟨by omega, wtC (k := 0) (hch.wt hz) rfl (by omega) fun B4 => ret1 rfl rfl ⟨X * 2 ^ s / BB ^ (n + 1), X * 2 ^ s % BB ^ (n + 1), rfl, by rw [hn]; exact Nat.mod_add_div _ _, by rw [hn]; exact Nat.mod_lt _ (BBpow_pos _), ?_, ?_⟩⟩
   ·have hp := hch.own (hz.pl (by omega))
    obtain ⟨u, hu⟩ := (hch.wr hz.wr 0 (by omega)).1
    have hv : iShl .u64 (dg X 0 : Int) (s : Int) = (dg (X * 2 ^ s) 0 : Int) := by rw [shl64 _ _ (by omega), dg_shl0]
    rw [hv]
    have h1 : Sg (wr.setCell ⟨z.b, z.o + 0, none⟩ (.int .u64 (dg (X * 2 ^ s) 0 : Int))) z.b z.o 1 (dg (X * 2 ^ s) 0) := by
     intro k hk
     have : k = 0 := by omega
     subst this
     rw [dg_self _ (dg_lt _ _)]
     exact World.cell?_setCell_same _ _ _ hu
    have h2 : Chg wr (wr.setCell ⟨z.b, z.o + 0, none⟩ (.int .u64 (dg (X * 2 ^ s) 0 : Int))) (inR z.b z.o (z.o + 1)) := Chg.setCell hp _ ⟨rfl, by omega, by omega⟩
    have h3 := Sg.join h1 (h2.sg hsg fun k hk hm => by have := hm.2.2; omega) (by rw [Nat.pow_one]; exact dg_lt _ _)
    have h4 : dg (X * 2 ^ s) 0 + BB ^ 1 * (X * 2 ^ s / BB ^ (0 + 1)) = X * 2 ^ s := by
     have := Nat.mod_add_div (X * 2 ^ s) BB
     simpa [dg] using this
    rw [h4] at h3
    rw [hn]
    exact (h3.le (by omega)).mod
   ·refine (hch.mono fun b k _ hm => ⟨hm.1, by have := hm.2.1; omega, hm.2.2⟩).trans' (Chg.setCell (hch.own (hz.pl (by omega))) _ ⟨rfl, by omega, by omega⟩)
theorem c145 (z x : Sl) (X s : Nat) (w : World) (hz : Wt w z) (hx : Rd w x X) (lx : x.l = z.l) (ox : OvUp z x) (hs : s < 64) :
  Calls Tryz.prog 145 #[z.v, x.v, .int .u64 (s : Int)] w (Vec w z fun c Z => Z + BB ^ z.l * c = X * 2 ^ s) :=
 F145.call z.a z.l z.c x.a x.l x.c s w _ fun B => Vec.pass (c165 z x X s w hz hx lx ox hs) fun c Z w' a1 a2 a3 a4 => ⟨_, rfl, fun B => ret1 rfl rfl ⟨c, Z, rfl, a1, a2, a3, a4⟩⟩
theorem c167 (z x : Sl) (X s : Nat) (w : World) (hz : Wt w z) (hx : Rd w x X) (lx : x.l = z.l) (ox : Ov z x) (hs : s < 64) :
  Calls Tryz.prog 167 #[z.v, x.v, .int .u64 (s : Int)] w (Vec w z fun _ Z => Z = X / 2 ^ s) := by
 have lm := hz.lm
 refine F167.call z.a z.l z.c x.a x.l x.c s w _
  fun B => bc_false (neF (by omega)) fun B1 => F167.t1 _ _ _ _ _ _ _ _ ⟨rfl, rfl, rfl, rfl, trivial⟩ fun B2 => bc_intro (fun hb => ?_) (fun hb => bc_intro (fun hb' B4 => ?_) (fun hb' => ?_))
 ·have h0 : s = 0 := by have := eqE hb; omega
  subst h0
  obtain ⟨w', r1, r2, r3⟩ := copyW z x z.l (by omega) X w ⟨hz.at_, hz.wr, hz.pl, hz.lm⟩ ⟨fun h0 => hx.at_ (by have : z.l ≠ 0 := h0; omega), by rw [← lx]; exact hx.sg, by show X < BB ^ z.l; rw [← lx]; exact hx.lt⟩
  refine ⟨w', _, r1, fun B3 => ret1 rfl rfl ⟨0, X, rfl, by omega, by rw [← lx]; exact hx.lt, r2, r3⟩⟩
 ·have h0 : z.l = 0 := by have := eqE hb'; omega
  have : X = 0 := by have := hx.lt; rw [lx, h0] at this; simpa using this
  subst this
  exact ret1 rfl rfl ⟨0, 0, rfl, by simp, BBpow_pos _, by rw [h0]; exact Sg.zero, Chg.refl _ _⟩
 ·have s0 : 0 < s := by have := eqN hb; omega
  obtain ⟨n, hn⟩ : ∃ n, z.l = n + 1 := ⟨z.l - 1, by have := eqN hb'; omega⟩
  have hX : X < BB ^ (n + 1) := by rw [← hn, ← lx]; exact hx.lt
  refine rdC (k := 0) (hx.at_ (by omega)) (by omega) (by omega) (hx.sg 0 (by omega)) ⟨by rw [cnt64 s s0 hs]; omega, fun B3 => ?_⟩
  rw [F167.q4]
  refine W_for (σ := Nat)
   (fun i => [(0, z.v), (1, x.v), (2, .int .u64 (s : Int)), (6, .int .u64 ((dg X 0 * 2 ^ (64 - s) % 18446744073709551616 : Nat) : Int)), (7, .int .u64 ((64 - s : Nat) : Int)), (8, .int .i64 (i + 1 : Nat))])
   (fun i wr => i ≤ n ∧ Sg wr z.b z.o i (X / 2 ^ s) ∧ Chg w wr (inR z.b z.o (z.o + i)))
   (fun i => n - i) 0 ⟨rfl, rfl, intv (cnt63 s hs), intv (by rw [cnt64 s s0 hs, shl64 _ _ (by omega)]), intv (cnt64 s s0 hs), rfl, trivial⟩
   ⟨by omega, Sg.zero, Chg.refl _ _⟩ ?_
  rintro i B wr ⟨hi, hsg, hch⟩
  refine F167.t3 z.a z.l z.c x.a x.l x.c s _ _ (i + 1 : Nat) ⟨rfl, rfl, rfl, rfl, rfl, rfl, trivial⟩ fun B1 => bc_intro (fun hb => ?_) (fun hb B2 => ?_)
  ·have hlt : i < n := by have := dT hb; omega
   refine ⟨by unfold inI64; omega, by unfold inI64; omega, rdC (k := i) (hx.at_ (by omega)) (by omega) (by omega) (chgAt hch.drew hx (by omega) (ox.not (Nat.le_refl _) (by omega))) ?_⟩
   refine ⟨by omega, rdC (k := i + 1) (hx.at_ (by omega)) (by omega) (by omega) (chgAt hch.drew hx (by omega) (ox.not (by omega) (by omega))) ?_⟩
   refine ⟨by omega, wtC (k := i) (hch.drew.wt hz) (by omega) (by omega) ⟨by unfold inI64; omega, fun B3 => ?_⟩⟩
   have hp := hch.own (hz.pl (by omega))
   obtain ⟨u, hu⟩ := (hch.wr hz.wr i (by omega)).1
   have hv : iOr .u64 (iShr .u64 (dg X i : Int) (s : Int)) (iShl .u64 (dg X (i + 1) : Int) ((64 - s : Nat) : Int)) = (dg (X / 2 ^ s) i : Int) := by
    rw [shl64 _ _ (by omega), shr64 _ _ (by omega), iOrN _ _ (Nat.lt_of_le_of_lt (Nat.div_le_self _ _) (dg_lt' X i)) (Nat.mod_lt _ (by omega)), dg_shr X s i s0 hs]
   rw [hv]
   refine ⟨i + 1, ⟨rfl, rfl, rfl, rfl, rfl, rfl, trivial⟩, rfl, ⟨hlt, ?_, hch.step rfl hp⟩, by show n - (i + 1) < n - i; omega⟩
   intro k hk
   by_cases hki : k = i
   ·subst hki; exact World.cell?_setCell_same _ _ _ hu
   ·rw [World.cell?_setCell_other _ _ _ _ (by simp <;> omega)]; exact hsg k (by omega)
  ·have hi0 : i = n := by have := dF hb; omega
   subst hi0
   refine F167.t2 z.a z.l z.c x.a x.l x.c s _ ⟨rfl, rfl, rfl, rfl, trivial⟩ fun B3 => ⟨by unfold inI64; omega, by unfold inI64; omega, rdC (k := i) (hx.at_ (by omega)) (by omega) (by omega) (chgAt hch hx (by omega) (ox.not (Nat.le_refl _) (by omega))) ?_⟩
   have hq : dg (X / 2 ^ s) i = dg X i / 2 ^ s := by
    rw [dg_shr X s i s0 hs, dg_of_lt X (i + 1) hX]; simp
   refine ⟨by omega, wtC (k := i) (hch.wt hz) (by omega) (by omega) fun B4 => ret1 rfl rfl ⟨_, X / 2 ^ s, rfl, rfl, Nat.lt_of_le_of_lt (Nat.div_le_self _ _) (by rw [hn]; exact hX), ?_, ?_⟩⟩
   ·obtain ⟨u, hu⟩ := (hch.wr hz.wr i (by omega)).1
    rw [shr64 _ _ (by omega), ← hq, hn]
    intro k hk
    by_cases hki : k = i
    ·subst hki; exact World.cell?_setCell_same _ _ _ hu
    ·rw [World.cell?_setCell_other _ _ _ _ (by simp <;> omega)]; exact hsg k (by omega)
   ·rw [hn]; exact hch.step rfl (hch.own (hz.pl (by omega)))
theorem c147 (z x : Sl) (X s : Nat) (w : World) (hz : Wt w z) (hx : Rd w x X) (lx : x.l = z.l) (ox : Ov z x) (hs : s < 64) :
  Calls Tryz.prog 147 #[z.v, x.v, .int .u64 (s : Int)] w (Vec w z fun _ Z => Z = X / 2 ^ s) :=
 F147.call z.a z.l z.c x.a x.l x.c s w _ fun B => Vec.pass (c167 z x X s w hz hx lx ox hs) fun c Z w' a1 a2 a3 a4 => ⟨_, rfl, fun B => ret1 rfl rfl ⟨c, Z, rfl, a1, a2, a3, a4⟩⟩
end Go.Proofs.YtlkjiiibmfpbcaaGreatDoor
namespace Go.Proofs.YtlkjiiibmfpbcaaGreatDoor
open Go
theorem Wt.sub {w : World} {s : Sl} (h : Wt w s) (lc : s.l ≤ s.c) (i : Nat) (hi : i ≤ s.l) : Wt w (s.sub i s.l) := by
 refine ⟨fun h0 => ?_, h.wr.sub i (s.l - i) (by omega), fun h0 => h.pl (by have : s.l - i ≠ 0 := h0; omega), by have := h.lm; show s.l - i ≤ _; omega⟩
 have h1 : s.l - i ≠ 0 := h0
 show shifted s.a i s.c 1 = _
 rw [h.at_ (by omega), shifted_eq _ _ _ _ (by omega)]; rfl
theorem Rd.hi {w : World} {s : Sl} {X : Nat} (h : Rd w s X) (lc : s.l ≤ s.c) (i : Nat) (hi : i ≤ s.l) : Rd w (s.sub i s.l) (X / BB ^ i) := by
 refine ⟨fun h0 => ?_, h.sg.hi i (s.l - i) (by omega), ?_⟩
 ·have h1 : s.l - i ≠ 0 := h0
  show shifted s.a i s.c 1 = _
  rw [h.at_ (by omega), shifted_eq _ _ _ _ (by omega)]; rfl
 ·show X / BB ^ i < BB ^ (s.l - i)
  rw [Nat.div_lt_iff_lt_mul (BBpow_pos i), ← Nat.pow_add, Nat.sub_add_cancel hi]; exact h.lt
theorem tail_done {w wr w' : World} {z : Sl} {T : Nat → Nat → Prop} {k Z X V : Nat} (hch : Chg w wr (inR z.b z.o (z.o + k))) (hsg : Sg wr z.b z.o k Z) (hZ : Z < BB ^ k) (hk : k ≤ z.l)
  (h2 : Chg wr w' (inR z.b (z.o + k) (z.o + z.l))) (h3 : Sg w' z.b (z.o + k) (z.l - k) (X / BB ^ k)) (hX : X < BB ^ z.l) (hV : Z + BB ^ k * (X / BB ^ k) = V) (hT : T 0 V) : VecR w z T (.int .u64 0) w' := by
 refine ⟨0, V, rfl, hT, ?_, ?_, ?_⟩
 ·have h4 : X / BB ^ k < BB ^ (z.l - k) := by rw [Nat.div_lt_iff_lt_mul (BBpow_pos k), ← Nat.pow_add, Nat.sub_add_cancel hk]; exact hX
  have h5 : BB ^ k * (X / BB ^ k) + BB ^ k ≤ BB ^ z.l := by
   rw [← Nat.mul_succ]
   refine Nat.le_trans (Nat.mul_le_mul_left _ h4) ?_
   rw [← Nat.pow_add, Nat.add_sub_cancel' hk]; exact Nat.le_refl _
  omega
 ·have := Sg.join (h2.sg hsg fun i hi hm => by have := hm.2.1; omega) h3 hZ
  rw [hV, Nat.add_sub_cancel' hk] at this
  exact this
 ·exact (hch.mono fun b i _ hm => ⟨hm.1, hm.2.1, by have := hm.2.2; omega⟩).trans' (h2.mono fun b i _ hm => ⟨hm.1, by have := hm.2.1; omega, hm.2.2⟩)
theorem tail_same {w wr : World} {z x : Sl} {k X : Nat} (hch : Chg w wr (inR z.b z.o (z.o + k))) (hx : Rd w x X) (lx : x.l = z.l) (e : z.b = x.b ∧ z.o = x.o) : Sg wr z.b (z.o + k) (z.l - k) (X / BB ^ k) := by
 intro i hi
 have h1 := chgAt hch hx (k := k + i) (by omega) (by rintro ⟨_, _, h3⟩; omega)
 rw [dg_div, e.1, e.2, Nat.add_assoc]; exact h1
theorem tail_diff {w wr : World} {z x : Sl} {k X : Nat} (hch : Chg w wr (inR z.b z.o (z.o + k))) (hz : Wt w z) (hx : Rd w x X) (lx : x.l = z.l) (ox : Ov z x) (cz : z.l ≤ z.c) (cx : x.l ≤ x.c) (hk : k ≤ z.l) :
  ∃ w', Sem.run Tryz.prog (builtin .copy #[44, 44] 3 #[false, false] #[(z.sub k z.l).v, (x.sub k x.l).v]) wr.drew.drew = .ok (.value (.int .i64 ((z.l - k : Nat) : Int))) w' ∧ Sg w' z.b (z.o + k) (z.l - k) (X / BB ^ k) ∧ Chg wr w' (inR z.b (z.o + k) (z.o + z.l)) := by
 have hx' := hx.hi cx k (by omega)
 have hx2 : Rd wr.drew.drew (x.sub k x.l) (X / BB ^ k) := hch.drew.drew.rd hx' fun i hi => by
  have hi' : i < x.l - k := hi
  rintro ⟨h1, h2, h3⟩
  have h1' : x.b = z.b := h1
  have h2' : z.o ≤ x.o + k + i := h2
  have h3' : x.o + k + i < z.o + k := h3
  unfold Ov at ox; omega
 have hz2 : Wt wr.drew.drew (z.sub k z.l) := hch.drew.drew.wt (hz.sub cz k hk)
 obtain ⟨w', r1, r2, r3⟩ := copyW (z.sub k z.l) (x.sub k x.l) (z.l - k) (by show z.l - k = min (x.l - k) (z.l - k); omega) (X / BB ^ k) wr.drew.drew
  ⟨hz2.at_, hz2.wr, hz2.pl, hz2.lm⟩ ⟨fun h0 => hx2.at_ (by show x.l - k ≠ 0; have : z.l - k ≠ 0 := h0; omega), by have := hx2.sg; rw [show (x.sub k x.l).l = z.l - k by show x.l - k = _; omega] at this; exact this,
   by have := hx2.lt; rw [show (x.sub k x.l).l = z.l - k by show x.l - k = _; omega] at this; exact this⟩
 refine ⟨w', r1, r2, ?_⟩
 refine ((Chg.drew0 wr _).drew).trans' (r3.mono fun b i _ hm => ⟨hm.1, hm.2.1, by have : i < z.o + k + (z.l - k) := hm.2.2; omega⟩)
theorem ptrIs {w : World} {z x : Sl} (hz : plainAt w z.b) (hx : plainAt w x.b) : ptrEq w (some ⟨z.b, z.o + 0, none⟩) (some ⟨x.b, x.o + 0, none⟩) (decide (z.b = x.b ∧ z.o = x.o)) := by
 by_cases h : z.b = x.b
 ·refine .inl ⟨h, ?_⟩
  by_cases h2 : z.o = x.o
  ·rw [decT ⟨h, h2⟩, h, h2]; exact (beq_self_eq_true (⟨x.b, x.o + 0, none⟩ : Addr)).symm
  ·rw [decF (fun e => h2 e.2)]; symm; rw [beq_eq_false_iff_ne]; intro e; injection e with _ e2; omega
 ·exact .inr ⟨h, hz, hx, decF fun e => h e.1⟩
theorem bcP {p : Prop} [Decidable p] {A B : Prop} (h1 : ¬ p → A) (h2 : p → B) : bc (!decide p) A B :=
 bc_intro (fun h => h1 (of_decide_eq_false (by simpa using h))) (fun h => h2 (of_decide_eq_true (by simpa using h)))
theorem split_at (X k : Nat) : X = X % BB ^ k + BB ^ k * (dg X k) + BB ^ (k + 1) * (X / BB ^ (k + 1)) := by
 rw [← mod_succ]; exact (Nat.mod_add_div _ _).symm
theorem c139 (z x : Sl) (X y : Nat) (w : World) (hz : Wt w z) (hx : Rd w x X) (lx : x.l = z.l) (ox : Ov z x) (cz : z.l ≤ z.c) (cx : x.l ≤ x.c) (px : x.l ≠ 0 → plainAt w x.b) (hy : y < 18446744073709551616) :
  Calls Tryz.prog 139 #[z.v, x.v, .int .u64 (y : Int)] w (Vec w z fun c Z => Z + BB ^ z.l * c = X + y ∧ (z.l ≠ 0 → c ≤ 1)) := by
 have lm := hz.lm
 have hX : X < BB ^ z.l := by rw [← lx]; exact hx.lt
 refine F139.call z.a z.l z.c x.a x.l x.c y w _
  fun B => bc_false (neF (by omega)) fun B1 => F139.t1 _ _ _ _ _ _ _ ⟨rfl, rfl, rfl, trivial⟩ fun B2 => bc_intro (fun hb B4 => ?_) (fun hb => ?_)
 ·have h0 : z.l = 0 := by have := eqE hb; omega
  have : X = 0 := by rw [h0] at hX; simpa using hX
  subst this
  exact ret1 rfl rfl ⟨y, 0, rfl, ⟨by simp [h0], fun h => absurd h0 h⟩, BBpow_pos _, by rw [h0]; exact Sg.zero, Chg.refl _ _⟩
 ·have h0 : z.l ≠ 0 := by have := eqN hb; omega
  have d0 := dg_lt' X 0
  have hs0 := split_at X 0
  rw [Nat.pow_zero, Nat.mod_one, Nat.one_mul, Nat.zero_add, Nat.zero_add] at hs0
  refine rdC (k := 0) (hx.at_ (by omega)) rfl (by omega) (hx.sg 0 (by omega)) ((c163 (dg X 0) y 0 (by omega) w).mono ?_)
  rintro e w1 ⟨rfl, hw⟩
  have hw := hw.symm
  subst hw
  refine ⟨_, trivial, _, trivial, rfl, wtC (k := 0) hz rfl (by omega) ?_⟩
  have hch : Chg w (w.setCell ⟨z.b, z.o + 0, none⟩ (.int .u64 (((dg X 0 + y + 0) % 18446744073709551616 : Nat) : Int))) (inR z.b z.o (z.o + 1)) := Chg.step (k := 0) (Chg.refl w _) rfl (hz.pl h0)
  have hsg : Sg (w.setCell ⟨z.b, z.o + 0, none⟩ (.int .u64 (((dg X 0 + y + 0) % 18446744073709551616 : Nat) : Int))) z.b z.o 1 ((dg X 0 + y + 0) % 18446744073709551616) := by
   have := Sg.step (k := 0) (z := 0) (d := (dg X 0 + y + 0) % 18446744073709551616) (Sg.zero (w := w) (b := z.b) (o := z.o)) (by simp) (Nat.mod_lt _ (by omega)) rfl (hz.pl h0) (hz.wr 0 (by omega)).1
   rw [Nat.pow_zero, Nat.one_mul, Nat.zero_add, Nat.zero_add] at this
   exact this
  have hZ : (dg X 0 + y + 0) % 18446744073709551616 < BB ^ 1 := by rw [Nat.pow_one]; exact Nat.mod_lt _ (by omega)
  generalize hw1 : w.setCell ⟨z.b, z.o + 0, none⟩ (.int .u64 (((dg X 0 + y + 0) % 18446744073709551616 : Nat) : Int)) = w1 at hch hsg
  refine bc_intro (fun hc => ?_) (fun hc B3 => ?_)
  ·have hc0 : (dg X 0 + y + 0) / 18446744073709551616 = 0 := by have := eqE hc; omega
   have hV : (dg X 0 + y + 0) % 18446744073709551616 + BB ^ 1 * (X / BB ^ 1) = X + y := by omega
   refine ⟨z.b, z.o, hz.at_ h0, 0, rfl, by omega, x.b, x.o, hx.at_ (by omega), 0, rfl, by omega, _, ptrIs (hch.drew.plain (hz.pl h0).2) (hch.drew.plain (px (by omega))), ?_⟩
   refine bcP (fun hne => ?_) (fun he B3 => ?_)
   ·obtain ⟨w', r1, r2, r3⟩ := tail_diff hch hz hx lx ox cz cx (by omega)
    refine ⟨1, rfl, by omega, 1, rfl, by omega, w', _, r1, fun B3 => F139.t3 trivial fun B5 B6 => ret1 rfl rfl ?_⟩
    exact tail_done hch hsg hZ (by omega) r3 r2 hX hV ⟨by simp, fun _ => by omega⟩
   ·refine F139.t3 trivial fun B5 B6 => ret1 rfl rfl ?_
    exact tail_done hch hsg hZ (by omega) (Chg.drew0 w1 _) (tail_same hch.drew hx lx he) hX hV ⟨by simp, fun _ => by omega⟩
  ·have hc1 : (dg X 0 + y + 0) / 18446744073709551616 = 1 := by have := eqN hc; omega
   refine F139.t2 z.a z.l z.c x.a x.l x.c ⟨rfl, rfl, trivial⟩ fun B4 B5 => ?_
   rw [F139.q6]
   refine W_for (σ := Nat × Nat) (fun s => [(0, z.v), (1, x.v), (9, .int .i64 (s.1 : Int))])
    (fun s wr => 1 ≤ s.1 ∧ s.1 ≤ z.l ∧ s.2 < BB ^ s.1 ∧ s.2 + BB ^ s.1 = X % BB ^ s.1 + y ∧ Sg wr z.b z.o s.1 s.2 ∧ Chg w wr (inR z.b z.o (z.o + s.1)))
    (fun s => z.l - s.1) (1, (dg X 0 + y + 0) % 18446744073709551616) ⟨rfl, rfl, rfl, trivial⟩
    ⟨Nat.le_refl _, by show 1 ≤ z.l; omega, hZ, ?_, hsg, hch⟩ ?_
   ·show (dg X 0 + y + 0) % 18446744073709551616 + BB ^ 1 = X % BB ^ 1 + y
    have : X % BB ^ 1 = dg X 0 := by rw [mod_succ, Nat.pow_zero, Nat.mod_one]; omega
    rw [this, Nat.pow_one, BB_eq]; omega
   rintro ⟨k, Z⟩ B wr ⟨k1, hk, hZ, hS, hsg, hch⟩
   simp only at k1 hk hZ hS hsg hch
   refine F139.t5 z.a z.l z.c x.a x.l x.c k ⟨rfl, rfl, rfl, trivial⟩ fun B6 => bc_intro (fun hb => ?_) (fun hb B7 => ?_)
   ·have hlt : k < z.l := by have := dT hb; omega
    have dk := dg_lt' X k
    have hp := hch.own (hz.pl h0)
    refine rdC (k := k) (hx.at_ (by omega)) rfl (by omega) (chgAt hch hx (by omega) (ox.not (Nat.le_refl k) (by omega))) (bc_intro (fun hm => ?_) (fun hm B7 => ?_))
    ·have hm' : dg X k ≠ 18446744073709551615 := by have := neN hm; omega
     refine wtC (k := k) (hch.wt hz) rfl hlt ?_
     rw [show IntKind.wrap .u64 ((dg X k : Int) + 1) = ((dg X k + 1 : Nat) : Int) by rw [show ((dg X k : Int) + 1) = ((dg X k + 1 : Nat) : Int) by omega, wrapN _ (by omega)]]
     have hch2 := hch.step (v := .int .u64 ((dg X k + 1 : Nat) : Int)) (w2 := wr) rfl hp
     have hsg2 := hsg.step hZ (d := dg X k + 1) (w2 := wr) (by rw [BB_eq]; omega) rfl hp (hch.wr hz.wr k hlt).1
     have hZ2 := dlt (d := dg X k + 1) hZ (by omega)
     have hV : Z + BB ^ k * (dg X k + 1) + BB ^ (k + 1) * (X / BB ^ (k + 1)) = X + y := by
      have := split_at X k
      rw [Nat.mul_add, Nat.mul_one]; omega
     generalize wr.setCell ⟨z.b, z.o + k, none⟩ (.int .u64 ((dg X k + 1 : Nat) : Int)) = w2 at hch2 hsg2
     refine ⟨z.b, z.o, hz.at_ h0, 0, rfl, by omega, x.b, x.o, hx.at_ (by omega), 0, rfl, by omega, _, ptrIs (hch2.drew.plain (hz.pl h0).2) (hch2.drew.plain (px (by omega))), ?_⟩
     refine bcP (fun hne => ?_) (fun he B3 => ?_)
     ·obtain ⟨w', r1, r2, r3⟩ := tail_diff hch2 hz hx lx ox cz cx (by omega)
      refine ⟨by unfold inI64; omega, k + 1, by omega, by omega, by unfold inI64; omega, k + 1, by omega, by omega, w', _, r1, fun B3 => F139.t9 trivial fun B5 B6 => ret1 rfl rfl ?_⟩
      exact tail_done hch2 hsg2 hZ2 (by omega) r3 r2 hX hV ⟨by simp, fun _ => by omega⟩
     ·refine F139.t9 trivial fun B5 B6 => ret1 rfl rfl ?_
      exact tail_done hch2 hsg2 hZ2 (by omega) (Chg.drew0 w2 _) (tail_same hch2.drew hx lx he) hX hV ⟨by simp, fun _ => by omega⟩
    ·have hm' : dg X k = 18446744073709551615 := by have := neE hm; omega
     refine F139.t7 z.a z.l z.c x.a x.l x.c k ⟨rfl, rfl, rfl, trivial⟩ fun B8 => wtC (k := k) (hch.wt hz) rfl hlt fun B9 => ?_
     refine F139.t8 z.a z.l z.c x.a x.l x.c k ⟨rfl, rfl, rfl, trivial⟩ fun B10 => ⟨by unfold inI64; omega, fun B11 => ?_⟩
     have hsg2 := hsg.step hZ (d := 0) (w2 := wr) (by rw [BB_eq]; omega) rfl hp (hch.wr hz.wr k hlt).1
     refine ⟨(k + 1, Z + BB ^ k * 0), ⟨rfl, rfl, rfl, trivial⟩, rfl, ⟨by show 1 ≤ k + 1; omega, by show k + 1 ≤ z.l; omega, dlt hZ (by omega), ?_, hsg2, hch.step rfl hp⟩, by show z.l - (k + 1) < z.l - k; omega⟩
     show Z + BB ^ k * 0 + BB ^ (k + 1) = X % BB ^ (k + 1) + y
     rw [mod_succ, hm', BBpow_succ, BB_eq, show (18446744073709551616 : Nat) = 18446744073709551615 + 1 from rfl, Nat.mul_add]
     rw [← show (18446744073709551616 : Nat) = 18446744073709551615 + 1 from rfl, ← BB_eq] at *
     omega
   ·have hk' : k = z.l := by have := dF hb; omega
    subst hk'
    refine F139.t4 trivial fun B8 B9 => ret1 rfl rfl ⟨1, Z, rfl, ⟨?_, fun _ => Nat.le_refl _⟩, hZ, hsg, hch⟩
    rw [Nat.mod_eq_of_lt hX] at hS
    rw [Nat.mul_one]; exact hS
theorem c83 (z x : Sl) (X y : Nat) (w : World) (hz : Wt w z) (hx : Rd w x X) (lx : x.l = z.l) (ox : Ov z x) (cz : z.l ≤ z.c) (cx : x.l ≤ x.c) (px : x.l ≠ 0 → plainAt w x.b) (hy : y < 18446744073709551616) :
  Calls Tryz.prog 83 #[z.v, x.v, .int .u64 (y : Int)] w (Vec w z fun c Z => Z + y = X + BB ^ z.l * c ∧ (z.l ≠ 0 → c ≤ 1)) := by
 have lm := hz.lm
 have hX : X < BB ^ z.l := by rw [← lx]; exact hx.lt
 refine F83.call z.a z.l z.c x.a x.l x.c y w _
  fun B => bc_false (neF (by omega)) fun B1 => F83.t1 _ _ _ _ _ _ _ ⟨rfl, rfl, rfl, trivial⟩ fun B2 => bc_intro (fun hb B4 => ?_) (fun hb => ?_)
 ·have h0 : z.l = 0 := by have := eqE hb; omega
  have : X = 0 := by rw [h0] at hX; simpa using hX
  subst this
  exact ret1 rfl rfl ⟨y, 0, rfl, ⟨by simp [h0], fun h => absurd h0 h⟩, BBpow_pos _, by rw [h0]; exact Sg.zero, Chg.refl _ _⟩
 ·have h0 : z.l ≠ 0 := by have := eqN hb; omega
  have d0 := dg_lt' X 0
  have hs0 := split_at X 0
  rw [Nat.pow_zero, Nat.mod_one, Nat.one_mul, Nat.zero_add, Nat.zero_add] at hs0
  refine rdC (k := 0) (hx.at_ (by omega)) rfl (by omega) (hx.sg 0 (by omega)) ((c122 (dg X 0) y 0 (by omega) hy w).mono ?_)
  rintro e w1 ⟨rfl, hw⟩
  have hw := hw.symm
  subst hw
  have hD : (dg X 0 + 18446744073709551616 - (y + 0)) % 18446744073709551616 + y = dg X 0 + 18446744073709551616 * (if dg X 0 < y + 0 then 1 else 0) := by split <;> omega
  have hC : (if dg X 0 < y + 0 then 1 else 0) ≤ 1 := by split <;> omega
  generalize hd : (dg X 0 + 18446744073709551616 - (y + 0)) % 18446744073709551616 = d at hD
  generalize (if dg X 0 < y + 0 then 1 else 0) = c' at hD hC
  have hdl : d < 18446744073709551616 := by omega
  refine ⟨_, trivial, _, trivial, rfl, wtC (k := 0) hz rfl (by omega) ?_⟩
  have hch : Chg w (w.setCell ⟨z.b, z.o + 0, none⟩ (.int .u64 (d : Int))) (inR z.b z.o (z.o + 1)) := Chg.step (k := 0) (Chg.refl w _) rfl (hz.pl h0)
  have hsg : Sg (w.setCell ⟨z.b, z.o + 0, none⟩ (.int .u64 (d : Int))) z.b z.o 1 d := by
   have := Sg.step (k := 0) (z := 0) (d := d) (Sg.zero (w := w) (b := z.b) (o := z.o)) (by simp) hdl rfl (hz.pl h0) (hz.wr 0 (by omega)).1
   rw [Nat.pow_zero, Nat.one_mul, Nat.zero_add, Nat.zero_add] at this
   exact this
  have hZ : d < BB ^ 1 := by rw [Nat.pow_one]; exact hdl
  generalize hw1 : w.setCell ⟨z.b, z.o + 0, none⟩ (.int .u64 (d : Int)) = w1 at hch hsg
  refine bc_intro (fun hc => ?_) (fun hc B3 => ?_)
  ·have hc0 : c' = 0 := by have := eqE hc; omega
   have hV : d + BB ^ 1 * (X / BB ^ 1) + y = X := by omega
   refine ⟨z.b, z.o, hz.at_ h0, 0, rfl, by omega, x.b, x.o, hx.at_ (by omega), 0, rfl, by omega, _, ptrIs (hch.drew.plain (hz.pl h0).2) (hch.drew.plain (px (by omega))), ?_⟩
   refine bcP (fun hne => ?_) (fun he B3 => ?_)
   ·obtain ⟨w', r1, r2, r3⟩ := tail_diff hch hz hx lx ox cz cx (by omega)
    refine ⟨1, rfl, by omega, 1, rfl, by omega, w', _, r1, fun B3 => F83.t3 trivial fun B5 B6 => ret1 rfl rfl ?_⟩
    exact tail_done hch hsg hZ (by omega) r3 r2 hX rfl ⟨by rw [hV, Nat.mul_zero, Nat.add_zero], fun _ => by omega⟩
   ·refine F83.t3 trivial fun B5 B6 => ret1 rfl rfl ?_
    exact tail_done hch hsg hZ (by omega) (Chg.drew0 w1 _) (tail_same hch.drew hx lx he) hX rfl ⟨by rw [hV, Nat.mul_zero, Nat.add_zero], fun _ => by omega⟩
  ·have hc1 : c' = 1 := by have := eqN hc; omega
   refine F83.t2 z.a z.l z.c x.a x.l x.c ⟨rfl, rfl, trivial⟩ fun B4 B5 => ?_
   rw [F83.q6]
   refine W_for (σ := Nat × Nat) (fun s => [(0, z.v), (1, x.v), (9, .int .i64 (s.1 : Int))])
    (fun s wr => 1 ≤ s.1 ∧ s.1 ≤ z.l ∧ s.2 < BB ^ s.1 ∧ s.2 + y = X % BB ^ s.1 + BB ^ s.1 ∧ Sg wr z.b z.o s.1 s.2 ∧ Chg w wr (inR z.b z.o (z.o + s.1)))
    (fun s => z.l - s.1) (1, d) ⟨rfl, rfl, rfl, trivial⟩
    ⟨Nat.le_refl _, by show 1 ≤ z.l; omega, hZ, ?_, hsg, hch⟩ ?_
   ·show d + y = X % BB ^ 1 + BB ^ 1
    have : X % BB ^ 1 = dg X 0 := by rw [mod_succ, Nat.pow_zero, Nat.mod_one]; omega
    rw [this, Nat.pow_one, BB_eq]; omega
   rintro ⟨k, Z⟩ B wr ⟨k1, hk, hZ, hS, hsg, hch⟩
   simp only at k1 hk hZ hS hsg hch
   refine F83.t5 z.a z.l z.c x.a x.l x.c k ⟨rfl, rfl, rfl, trivial⟩ fun B6 => bc_intro (fun hb => ?_) (fun hb B7 => ?_)
   ·have hlt : k < z.l := by have := dT hb; omega
    have dk := dg_lt' X k
    have hp := hch.own (hz.pl h0)
    refine rdC (k := k) (hx.at_ (by omega)) rfl (by omega) (chgAt hch hx (by omega) (ox.not (Nat.le_refl k) (by omega))) (bc_intro (fun hm => ?_) (fun hm B7 => ?_))
    ·have hm' : dg X k ≠ 0 := by have := neN hm; omega
     refine wtC (k := k) (hch.wt hz) rfl hlt ?_
     rw [show IntKind.wrap .u64 ((dg X k : Int) - 1) = ((dg X k - 1 : Nat) : Int) by rw [show ((dg X k : Int) - 1) = ((dg X k - 1 : Nat) : Int) by omega, wrapN _ (by omega)]]
     have hch2 := hch.step (v := .int .u64 ((dg X k - 1 : Nat) : Int)) (w2 := wr) rfl hp
     have hsg2 := hsg.step hZ (d := dg X k - 1) (w2 := wr) (by rw [BB_eq]; omega) rfl hp (hch.wr hz.wr k hlt).1
     have hZ2 := dlt (d := dg X k - 1) hZ (by omega)
     have hV : Z + BB ^ k * (dg X k - 1) + BB ^ (k + 1) * (X / BB ^ (k + 1)) + y = X := by
      have := split_at X k
      have h7 : BB ^ k * (dg X k - 1) + BB ^ k = BB ^ k * dg X k := by rw [← Nat.mul_succ, Nat.succ_eq_add_one, Nat.sub_add_cancel (by omega)]
      omega
     generalize wr.setCell ⟨z.b, z.o + k, none⟩ (.int .u64 ((dg X k - 1 : Nat) : Int)) = w2 at hch2 hsg2
     refine ⟨z.b, z.o, hz.at_ h0, 0, rfl, by omega, x.b, x.o, hx.at_ (by omega), 0, rfl, by omega, _, ptrIs (hch2.drew.plain (hz.pl h0).2) (hch2.drew.plain (px (by omega))), ?_⟩
     refine bcP (fun hne => ?_) (fun he B3 => ?_)
     ·obtain ⟨w', r1, r2, r3⟩ := tail_diff hch2 hz hx lx ox cz cx (by omega)
      refine ⟨by unfold inI64; omega, k + 1, by omega, by omega, by unfold inI64; omega, k + 1, by omega, by omega, w', _, r1, fun B3 => F83.t9 trivial fun B5 B6 => ret1 rfl rfl ?_⟩
      exact tail_done hch2 hsg2 hZ2 (by omega) r3 r2 hX rfl ⟨by rw [hV, Nat.mul_zero, Nat.add_zero], fun _ => by omega⟩
     ·refine F83.t9 trivial fun B5 B6 => ret1 rfl rfl ?_
      exact tail_done hch2 hsg2 hZ2 (by omega) (Chg.drew0 w2 _) (tail_same hch2.drew hx lx he) hX rfl ⟨by rw [hV, Nat.mul_zero, Nat.add_zero], fun _ => by omega⟩
    ·have hm' : dg X k = 0 := by have := neE hm; omega
     refine F83.t7 z.a z.l z.c x.a x.l x.c k ⟨rfl, rfl, rfl, trivial⟩ fun B8 => wtC (k := k) (hch.wt hz) rfl hlt fun B9 => ?_
     refine F83.t8 z.a z.l z.c x.a x.l x.c k ⟨rfl, rfl, rfl, trivial⟩ fun B10 => ⟨by unfold inI64; omega, fun B11 => ?_⟩
     have hsg2 := hsg.step hZ (d := 18446744073709551615) (w2 := wr) (by rw [BB_eq]; omega) rfl hp (hch.wr hz.wr k hlt).1
     refine ⟨(k + 1, Z + BB ^ k * 18446744073709551615), ⟨rfl, rfl, rfl, trivial⟩, rfl, ⟨by show 1 ≤ k + 1; omega, by show k + 1 ≤ z.l; omega, dlt hZ (by omega), ?_, hsg2, hch.step rfl hp⟩, by show z.l - (k + 1) < z.l - k; omega⟩
     show Z + BB ^ k * 18446744073709551615 + y = X % BB ^ (k + 1) + BB ^ (k + 1)
     rw [mod_succ, hm', BBpow_succ]
     have h7 : BB ^ k * BB = BB ^ k * 18446744073709551615 + BB ^ k := rfl
     omega
   ·have hk' : k = z.l := by have := dF hb; omega
    subst hk'
    refine F83.t4 trivial fun B8 B9 => ret1 rfl rfl ⟨1, Z, rfl, ⟨?_, fun _ => Nat.le_refl _⟩, hZ, hsg, hch⟩
    rw [Nat.mod_eq_of_lt hX] at hS
    rw [Nat.mul_one]; exact hS
end Go.Proofs.YtlkjiiibmfpbcaaGreatDoor
