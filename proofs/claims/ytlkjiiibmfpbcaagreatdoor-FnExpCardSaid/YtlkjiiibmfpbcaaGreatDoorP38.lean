/- Contracts: the simulated steps by leading words. Conditions: the second number has two words or more and is not above the first. -/
import Derived.Test.YtlkjiiibmfpbcaaGreatDoorP37
namespace Go.Proofs.YtlkjiiibmfpbcaaGreatDoor
open Go
theorem sim_loop {c d : Nat} (hc : 1 ≤ c) (hcB : c < 18446744073709551616) (hd : d ≤ c) (w : World) (e : Env) (R : Value → World → Prop) (he : e.defers = [])
  (hag : agree e [(4, .int .u64 0), (5, .int .u64 1), (6, .int .u64 0), (7, .int .u64 0), (8, .bool false), (9, .int .u64 (c : Int)), (10, .int .u64 (d : Int)), (11, .int .u64 0), (12, .int .u64 1)])
  (hR : ∀ (u0 u1 v0 v1 : Nat) (ev : Bool) w', u0 < 18446744073709551616 → u1 < 18446744073709551616 → v0 < 18446744073709551616 → v1 < 18446744073709551616 → (v0 = 0 ∨ RP c d u0 u1 v0 v1 ev) → Chg w w' none2 →
   R (.tuple #[.int .u64 (u0 : Int), .int .u64 (u1 : Int), .int .u64 (v0 : Int), .int .u64 (v1 : Int), .bool ev]) w') :
  W Tryz.prog 137 F132.p4 e w (thenW Tryz.prog 137 F132.p2 (retK Tryz.prog [.tmp 4, .tmp 5, .tmp 6, .tmp 7, .tmp 8] R)) := by
 rw [F132.q4]
 refine W_for' (σ := Nat × Nat × Nat × Nat × Bool × Nat × Nat × Nat × Nat) (fun s => F132.l3 (s.1 : Int) (s.2.1 : Int) (s.2.2.1 : Int) (s.2.2.2.1 : Int) s.2.2.2.2.1 (s.2.2.2.2.2.1 : Int) (s.2.2.2.2.2.2.1 : Int) (s.2.2.2.2.2.2.2.1 : Int) (s.2.2.2.2.2.2.2.2 : Int))
  (fun s w' => SI c d s.2.2.2.2.2.1 s.2.2.2.2.2.2.1 s.2.1 s.2.2.2.2.2.2.2.1 s.2.2.2.1 s.2.2.2.2.2.2.2.2 s.2.2.2.2.1 ∧ (s.2.2.1 = 0 ∨ RP c d s.1 s.2.1 s.2.2.1 s.2.2.2.1 s.2.2.2.2.1) ∧ s.1 ≤ c ∧ s.2.2.1 ≤ c ∧ 1 ≤ s.2.2.2.2.2.1 ∧ s.2.2.2.2.2.1 ≤ c ∧ Chg w w' none2) (fun s => s.2.2.2.2.2.2.1) (0, 1, 0, 0, false, c, d, 0, 1) hag ⟨SI.start hd, .inl rfl, Nat.zero_le _, Nat.zero_le _, hc, Nat.le_refl _, Chg.refl _ _⟩ ?_
 rintro ⟨u0, u1, v0, v1, ev, a1, a2, u2, v2⟩ B wr K2 ⟨hs, hrp, hu0, hv0, h1, hac, hch⟩ hKn hKe _
 simp only at hs hrp hu0 hv0 h1 hac
 have s1 := hs.s1
 have hv2 : v2 ≤ c := by
  have : 1 * v2 ≤ a1 * v2 := Nat.mul_le_mul_right _ h1
  omega
 have hv1 : v1 ≤ c := by
  by_cases h : v1 = 0
  ·omega
  ·have := (hs.mo h).2; omega
 have hu2 : u2 ≤ c := Nat.le_trans hs.l2 hv2
 have hu1 : u1 ≤ c := by
  by_cases h : v1 = 0
  ·subst h
   cases ev with
   | false =>
    have := (hs.f rfl).2.2
    rw [Nat.mul_zero] at this
    have : u1 = 1 := Nat.eq_one_of_mul_eq_one_right (by omega)
    omega
   | true => have := (hs.t rfl).2.2; rw [Nat.mul_zero] at this; omega
  ·have := hs.l1 h; omega
 have hle := hs.le
 have hp2 := hs.p2
 have out : ∀ B', (blockK 1 (thenW Tryz.prog 137 F132.p2 (retK Tryz.prog [.tmp 4, .tmp 5, .tmp 6, .tmp 7, .tmp 8] R))) (.exit 1) (E (F132.l3 (u0 : Int) (u1 : Int) (v0 : Int) (v1 : Int) ev (a1 : Int) (a2 : Int) (u2 : Int) (v2 : Int)) B' e.defers) wr := by
  intro B'
  show W Tryz.prog 137 F132.p2 _ wr _
  refine F132.t2 u0 u1 v0 v1 ev ⟨rfl, rfl, rfl, rfl, rfl, trivial⟩ fun B3 B4 => ?_
  simp only [retK, he, runD]
  exact hR u0 u1 v0 v1 ev wr (by omega) (by omega) (by omega) (by omega) hrp hch
 refine F132.t3 u0 u1 v0 v1 ev a1 a2 u2 v2 ⟨rfl, rfl, rfl, rfl, rfl, rfl, rfl, rfl, rfl, trivial⟩ fun B1 => bc_intro (fun hb => ?_) (fun hb B2 => hKe _ _ (out B2))
 have hge : v2 ≤ a2 := by have := dT hb; omega
 have hvv : v1 + v2 ≤ c := by
  have h3 : 1 * v2 ≤ a1 * v2 := Nat.mul_le_mul_right _ h1
  have h4 : 1 * v1 ≤ a2 * v1 := Nat.mul_le_mul_right _ (by omega)
  omega
 have e1 : IntKind.wrap .u64 ((a1 : Int) - a2) = ((a1 - a2 : Nat) : Int) := by rw [show ((a1 : Int) - a2) = ((a1 - a2 : Nat) : Int) by omega, wrapN _ (by omega)]
 have e2 : IntKind.wrap .u64 ((v1 : Int) + v2) = ((v1 + v2 : Nat) : Int) := by rw [← Int.natCast_add, wrapN _ (by omega)]
 rw [e1, e2]
 refine bc_intro (fun hb2 => ⟨by omega, by omega, fun B2 => ?_⟩) (fun hb2 B2 => hKe _ _ (out B2))
 have hge2 : v1 + v2 ≤ a1 - a2 := by have := dT hb2; omega
 have hn := hs.next (by omega)
 have hn1 := hn.s1
 have hv2' : v1 + a1 / a2 * v2 ≤ c := by
  have : 1 * (v1 + a1 / a2 * v2) ≤ a2 * (v1 + a1 / a2 * v2) := Nat.mul_le_mul_right _ (by omega)
  omega
 have hu2' : u1 + a1 / a2 * u2 ≤ c := Nat.le_trans hn.l2 hv2'
 have q1 : iQuo .u64 (a1 : Int) (a2 : Int) = ((a1 / a2 : Nat) : Int) := iQuoN a1 a2 (by omega)
 have q2 : iRem (a1 : Int) (a2 : Int) = ((a1 % a2 : Nat) : Int) := iRemN a1 a2
 have q3 : IntKind.wrap .u64 ((u1 : Int) + IntKind.wrap .u64 (iQuo .u64 (a1 : Int) (a2 : Int) * (u2 : Int))) = ((u1 + a1 / a2 * u2 : Nat) : Int) := by
  rw [q1, ← Int.natCast_mul, wrapN (a1 / a2 * u2) (by omega), ← Int.natCast_add, wrapN _ (by omega)]
 have q4 : IntKind.wrap .u64 ((v1 : Int) + IntKind.wrap .u64 (iQuo .u64 (a1 : Int) (a2 : Int) * (v2 : Int))) = ((v1 + a1 / a2 * v2 : Nat) : Int) := by
  rw [q1, ← Int.natCast_mul, wrapN (a1 / a2 * v2) (by omega), ← Int.natCast_add, wrapN _ (by omega)]
 refine hKn _ _ (u1, u2, v1, v2, !ev, a2, a1 % a2, u1 + a1 / a2 * u2, v1 + a1 / a2 * v2) ⟨rfl, rfl, rfl, rfl, rfl, rfl, intv q2, intv q3, intv q4, trivial⟩ rfl ⟨hn, .inr ⟨a1, a2, by simpa using hs, hge, by show a2 + v1 + v2 ≤ a1; omega⟩, hu1, hv1, by show 1 ≤ a2; omega, by show a2 ≤ c; omega, hch.trans' (Chg.drew0 wr _)⟩ (Nat.mod_lt _ (by omega))
theorem lead {A n h t : Nat} (hA : A < BB ^ (n + 2)) (ht : t = dg A (n + 1)) (hh : h ≤ 64) (htop : t < 2 ^ (64 - h)) :
  A / (BB ^ n * 2 ^ (64 - h)) = t * 2 ^ h + dg A n / 2 ^ (64 - h) := by
 have h1 : A / BB ^ n = dg A n + BB * t := by
  have h2 : A / BB ^ n < BB * BB := by
   rw [Nat.div_lt_iff_lt_mul (BBpow_pos n)]
   have : BB ^ (n + 2) = BB * BB * BB ^ n := by rw [Nat.pow_add, Nat.pow_two, Nat.mul_comm]
   omega
  have h3 : t = A / BB ^ n / BB := by
   rw [ht]; unfold dg
   rw [BBpow_succ, ← Nat.div_div_eq_div_mul]
   exact Nat.mod_eq_of_lt (Nat.div_lt_of_lt_mul h2)
  rw [h3]
  exact (Nat.mod_add_div _ _).symm
 rw [← Nat.div_div_eq_div_mul, h1]
 have h4 : BB = 2 ^ (64 - h) * 2 ^ h := by rw [← Nat.pow_add, Nat.sub_add_cancel hh]; rfl
 have h5 : BB * t = 2 ^ (64 - h) * (t * 2 ^ h) := by rw [h4]; grind
 rw [h5, Nat.add_mul_div_left _ _ (Nat.two_pow_pos _), Nat.add_comm]
theorem orW {a b h : Nat} (hh : h ≤ 64) (ha : a < 2 ^ (64 - h)) (hb : b < 2 ^ h) : iOr .u64 ((a * 2 ^ h % 18446744073709551616 : Nat) : Int) (b : Int) = ((a * 2 ^ h + b : Nat) : Int) := by
 have h1 : 2 ^ (64 - h) * 2 ^ h = 18446744073709551616 := by rw [← Nat.pow_add, Nat.sub_add_cancel hh]
 have h2 : (a + 1) * 2 ^ h ≤ 2 ^ (64 - h) * 2 ^ h := Nat.mul_le_mul_right _ ha
 have h3 := Nat.two_pow_pos h
 rw [Nat.add_mul, Nat.one_mul] at h2
 rw [Nat.mod_eq_of_lt (by omega), iOrN _ _ (by omega) (by omega)]
 congr 1
 rw [Nat.mul_comm a, ← Nat.two_pow_add_eq_or_of_lt hb]
section
variable {w : World} {pA pB : Nat} {sA sB : Sl} {A B : Nat} {L : List Item}
def SimQ (w : World) (A B : Nat) (v : Value) (w' : World) : Prop :=
 ∃ (u0 u1 v0 v1 : Nat) (ev : Bool), v = .tuple #[.int .u64 (u0 : Int), .int .u64 (u1 : Int), .int .u64 (v0 : Int), .int .u64 (v1 : Int), .bool ev] ∧ u0 < 18446744073709551616 ∧ u1 < 18446744073709551616 ∧ v0 < 18446744073709551616 ∧ v1 < 18446744073709551616 ∧
  (v0 ≠ 0 → ∃ A' B', SimOK A B u0 u1 v0 v1 ev A' B') ∧ Chg w w' none2
theorem c132 (h : Bank w L) (hA1 : hdr pA false sA ∈ L) (hA2 : nmz sA A ∈ L) (hB1 : hdr pB false sB ∈ L) (hB2 : nmz sB B ∈ L) (hle : B ≤ A) (hl : 2 ≤ sB.l) (lA : sA.l ≤ 1000000) :
  Calls Tryz.prog 132 #[.pointer (ptr pA), .pointer (ptr pB)] w fun e w' => ∃ v, e = .returned v ∧ SimQ w A B v w' := by
 refine F132.call (ptr pA) (ptr pB) w _ fun B' => ?_
 have HA : HdrAt w pA false sA := h.all _ hA1
 have HB : HdrAt w pB false sB := h.all _ hB1
 have nA : Nz w sA A := h.all _ hA2
 have nB : Nz w sB B := h.all _ hB2
 have lAB : sB.l ≤ sA.l := nB.nm _ (Nat.lt_of_le_of_lt hle nA.lt)
 obtain ⟨n, hn⟩ : ∃ n, sA.l = n + 2 := ⟨sA.l - 2, by omega⟩
 have hAlt : A < BB ^ (n + 2) := by have := nA.lt; rw [hn] at this; exact this
 have hAge : BB ^ (n + 1) ≤ A := by have := nA.nm.le (by omega); rw [hn] at this; exact this
 have hAc := nA.lc
 have hBc := nB.lc
 obtain ⟨t, ht⟩ : ∃ t, t = dg A (n + 1) := ⟨_, rfl⟩
 have htB : t < 18446744073709551616 := by rw [ht]; exact dg_lt' A (n + 1)
 have ht0 : t ≠ 0 := by
  rw [ht]; unfold dg
  have h1 : A / BB ^ (n + 1) < BB := by rw [Nat.div_lt_iff_lt_mul (BBpow_pos _), Nat.mul_comm, ← BBpow_succ]; exact hAlt
  rw [Nat.mod_eq_of_lt h1]
  have := (Nat.one_le_div_iff (BBpow_pos (n + 1))).2 hAge
  omega
 have hbl := blen_le64 t htB
 have hbl0 := blen_ne t ht0
 obtain ⟨hh, hhe⟩ : ∃ hh, hh = 64 - blen t := ⟨_, rfl⟩
 have htop : t < 2 ^ (64 - hh) := by rw [hhe, show 64 - (64 - blen t) = blen t by omega]; exact blen_lt t
 have ei : (sA.l : Int) - 1 = ((n + 1 : Nat) : Int) := by omega
 have ei2 : (sA.l : Int) - 2 = ((n : Nat) : Int) := by omega
 have c1 : Chg w w.drew none2 := Chg.drew0 w _
 have c2 : Chg w w.drew.drew none2 := c1.trans' (Chg.drew0 w.drew _)
 have HA1 : HdrAt w.drew pA false sA := (h.none c1).all _ hA1
 have nA1 : Nz w.drew sA A := (h.none c1).all _ hA2
 have HB1 : HdrAt w.drew pB false sB := (h.none c1).all _ hB1
 have nB1 : Nz w.drew sB B := (h.none c1).all _ hB2
 have HB2 : HdrAt w.drew.drew pB false sB := (h.none c2).all _ hB1
 have nB2 : Nz w.drew.drew sB B := (h.none c2).all _ hB2
 refine ⟨pB, 0, rfl, sB.a, sB.l, sB.c, HB.c1, pA, 0, rfl, sA.a, sA.l, sA.c, HA.c1, pA, 0, rfl, sA.a, sA.l, sA.c, HA.c1, by unfold inI64; omega, ?_⟩
 refine ⟨sA.b, sA.o, nA.at_ (by omega), n + 1, ei, by omega, _, nA.sg (n + 1) (by omega), ?_⟩
 rw [← ht]
 refine (c78 t htB w).mono ?_
 rintro e w1 ⟨rfl, hw⟩
 have hw := hw.symm
 subst hw
 refine ⟨_, rfl, pA, 0, rfl, sA.a, sA.l, sA.c, HA1.c1, by unfold inI64; omega, sA.b, sA.o, nA.at_ (by omega), n + 1, ei, by omega, _, nA1.sg (n + 1) (by omega), by omega, pA, 0, rfl, sA.a, sA.l, sA.c, HA1.c1, by unfold inI64; omega, sA.b, sA.o, nA.at_ (by omega), n, ei2, by omega, _, nA1.sg n (by omega), ?_⟩
 rw [← ht, ← hhe]
 have e64 : IntKind.wrap .u64 (64 - (hh : Int)) = ((64 - hh : Nat) : Int) := by rw [show (64 - (hh : Int)) = ((64 - hh : Nat) : Int) by omega, wrapN _ (by omega)]
 rw [e64]
 obtain ⟨T, hT⟩ : ∃ T, T = BB ^ n * 2 ^ (64 - hh) := ⟨_, rfl⟩
 have hTpos : 0 < T := by rw [hT]; exact Nat.mul_pos (BBpow_pos n) (Nat.two_pow_pos _)
 have hdlt : ∀ x, x < 18446744073709551616 → x / 2 ^ (64 - hh) < 2 ^ hh := fun x hx => by
  rw [Nat.div_lt_iff_lt_mul (Nat.two_pow_pos _), ← Nat.pow_add, Nat.add_sub_cancel' (by omega)]; exact hx
 have hor : ∀ a b : Nat, a < 2 ^ (64 - hh) → b < 18446744073709551616 → iOr .u64 (iShl .u64 (a : Int) (hh : Int)) (iShr .u64 (b : Int) ((64 - hh : Nat) : Int)) = ((a * 2 ^ hh + b / 2 ^ (64 - hh) : Nat) : Int) := fun a b ha hb => by
  rw [shl64 a hh (by omega), shr64 b (64 - hh) (by omega)]
  exact orW (by omega) ha (hdlt b hb)
 have hc : A / T = t * 2 ^ hh + dg A n / 2 ^ (64 - hh) := by rw [hT]; exact lead hAlt ht (by omega) htop
 have hcB : A / T < 18446744073709551616 := by
  rw [hc]
  have h1 : 2 ^ (64 - hh) * 2 ^ hh = 18446744073709551616 := by rw [← Nat.pow_add, Nat.sub_add_cancel (by omega)]
  have h2 : (t + 1) * 2 ^ hh ≤ 2 ^ (64 - hh) * 2 ^ hh := Nat.mul_le_mul_right _ htop
  rw [Nat.add_mul, Nat.one_mul] at h2
  have := hdlt (dg A n) (dg_lt' A n)
  omega
 have hc1 : 1 ≤ A / T := by
  rw [hc]
  exact Nat.le_trans (show 1 * 1 ≤ t * 2 ^ hh from Nat.mul_le_mul (by omega) (Nat.two_pow_pos _)) (Nat.le_add_right _ _)
 rw [hor t (dg A n) htop (dg_lt' A n), ← hc]
 have hdc : B / T ≤ A / T := Nat.div_le_div_right hle
 have fin : ∀ (w1 : World) (x : Int) (B1 : Nat → Value), Chg w w1 none2 → x = ((B / T : Nat) : Int) → W Tryz.prog 137 F132.p1 (E [(9, .int .u64 ((A / T : Nat) : Int)), (10, .int .u64 x)] B1 []) w1 (retK Tryz.prog [.tmp 4, .tmp 5, .tmp 6, .tmp 7, .tmp 8] (SimQ w A B)) := by
  intro w1 x B1 cw hx
  rw [hx]
  refine F132.t1 ((A / T : Nat) : Int) ((B / T : Nat) : Int) ⟨rfl, rfl, trivial⟩ fun B2 B3 => ?_
  refine sim_loop hc1 hcB hdc w1 _ _ rfl ⟨rfl, rfl, rfl, rfl, rfl, rfl, rfl, rfl, rfl, trivial⟩ fun u0 u1 v0 v1 ev w' g0 g1 g2 g3 g4 g5 => ⟨u0, u1, v0, v1, ev, rfl, g0, g1, g2, g3, fun hv => ?_, cw.trans' g5⟩
  have hrp : RP (A / T) (B / T) u0 u1 v0 v1 ev := g4.resolve_left hv
  have := sim_ok (T := T) (lA := A % T) (lB := B % T) hrp hv (Nat.mod_lt _ hTpos) (Nat.mod_lt _ hTpos)
  rw [Nat.mul_comm (A / T), Nat.mul_comm (B / T), Nat.div_add_mod, Nat.div_add_mod] at this
  exact this
 refine ⟨by omega, bc_intro (fun hb => ?_) (fun hb => ⟨by unfold inI64; omega, bc_intro (fun hb2 => ?_) (fun hb2 B2 => ?_)⟩)⟩
 ·have hBl : sB.l = n + 2 := by have := eqE hb; omega
  have hBlt : B < BB ^ (n + 2) := by have := nB.lt; rw [hBl] at this; exact this
  have hBt : dg B (n + 1) < 2 ^ (64 - hh) := by
   refine Nat.lt_of_le_of_lt ?_ htop
   rw [ht]; unfold dg
   have h1 : ∀ x, x < BB ^ (n + 2) → x / BB ^ (n + 1) < BB := fun x hx => by rw [Nat.div_lt_iff_lt_mul (BBpow_pos _), Nat.mul_comm, ← BBpow_succ]; exact hx
   rw [Nat.mod_eq_of_lt (h1 A hAlt), Nat.mod_eq_of_lt (h1 B hBlt)]
   exact Nat.div_le_div_right hle
  refine ⟨pB, 0, rfl, sB.a, sB.l, sB.c, HB2.c1, by unfold inI64; omega, sB.b, sB.o, nB.at_ (by omega), n + 1, ei, by omega, _, nB2.sg (n + 1) (by omega), by omega, pB, 0, rfl, sB.a, sB.l, sB.c, HB2.c1, by unfold inI64; omega, sB.b, sB.o, nB.at_ (by omega), n, ei2, by omega, _, nB2.sg n (by omega), by omega, fun B2 => ?_⟩
  refine fin _ _ B2 c2 ?_
  rw [hor (dg B (n + 1)) (dg B n) hBt (dg_lt' B n)]
  congr 1
  rw [hT]; exact (lead hBlt rfl (by omega) hBt).symm
 ·have hBl : sB.l = n + 1 := by have := eqE hb2; omega
  have hBlt : B < BB ^ (n + 1) := by have := nB.lt; rw [hBl] at this; exact this
  refine ⟨pB, 0, rfl, sB.a, sB.l, sB.c, HB1.c1, by unfold inI64; omega, sB.b, sB.o, nB.at_ (by omega), n, ei2, by omega, _, nB1.sg n (by omega), by omega, fun B2 => ?_⟩
  refine fin _ _ B2 c1 ?_
  rw [shr64 _ _ (by omega)]
  congr 1
  rw [hT, ← Nat.div_div_eq_div_mul]
  congr 1
  unfold dg
  refine Nat.mod_eq_of_lt ?_
  rw [Nat.div_lt_iff_lt_mul (BBpow_pos _), Nat.mul_comm, ← BBpow_succ]; exact hBlt
 ·have hBl : sB.l ≤ n := by have := eqN hb; have := eqN hb2; omega
  refine fin _ _ B2 c1 ?_
  have : B / T = 0 := by
   refine Nat.div_eq_of_lt (Nat.lt_of_lt_of_le (lt_pow_of_le nB.lt hBl) ?_)
   rw [hT]
   exact Nat.le_mul_of_pos_right _ (Nat.two_pow_pos _)
  rw [this]; rfl
end
end Go.Proofs.YtlkjiiibmfpbcaaGreatDoor
namespace Go.Proofs.YtlkjiiibmfpbcaaGreatDoor
open Go
structure IR where
 p : Nat
 ng : Bool
 s : Sl
 V : Nat
abbrev IR.h (X : IR) : Item := hdr X.p X.ng X.s
abbrev IR.n (X : IR) : Item := nmz X.s X.V
abbrev IR.v (X : IR) : Int := iv X.ng X.V
def New (w0 : World) (X : IR) : Prop := w0.heap.size ≤ X.p ∧ (X.s.c ≠ 0 → w0.heap.size ≤ X.s.b)
structure G (w0 w : World) (M : List Item) : Prop where
 bank : Bank w M
 ch : Chg w0 w none2
 hg : Glb w0
def In (X : IR) (M : List Item) (Y : IR) : Prop := Y = X ∨ (Y.h ∈ M ∧ Y.n ∈ M)
def Can (X : IR) : Prop := X.V = 0 → X.ng = false
section
variable {w0 w : World} {X Y Z : IR} {M : List Item}
theorem G.pick (g : G w0 w M) (n : Nat) (is : List Nat) (hk : okP n is = true) : G w0 w (pk M is ++ dropL n M) := ⟨g.bank.pick n is hk, g.ch, g.hg⟩
theorem In.opd (h : In X M Y) : Opd X.p X.ng X.s X.V M Y.p Y.ng Y.s Y.V := by
 rcases h with rfl | h
 ·exact .inl ⟨rfl, rfl, rfl, rfl⟩
 ·exact .inr h
theorem New.next {X : IR} (h : New w0 X) (hc : Chg w0 w none2) {r : Sl} (hf : From w X.s r) (ng : Bool) (V : Nat) : New w0 ⟨X.p, ng, r, V⟩ := by
 refine ⟨h.1, fun h0 => ?_⟩
 have h0 : r.c ≠ 0 := h0
 show w0.heap.size ≤ r.b
 rcases hf with ⟨_, e2, e3, _⟩ | hf
 ·rw [e3]; exact h.2 (by omega)
 ·exact Nat.le_trans hc.size hf
theorem New.chg {X : IR} (h : New w0 X) (hc : Chg w0 w none2) {w' : World} (h2 : Chg w w' (un (blk X.p) (fp X.s))) : Chg w0 w' none2 :=
 hc.trans h2 (fun _ _ _ h => h) fun b i hb hm => by
  rcases hm with hm | hm
  ·have hm : b = X.p := hm
   have := h.1; omega
  ·have := h.2 (by have := hm.2.1; have := hm.2.2; omega)
   have := hm.1; omega
theorem In.len (h : In X M Y) (g : G w0 w (X.h :: X.n :: M)) {k : Nat} (hk : Y.V < BB ^ k) : Y.s.l ≤ k := (h.opd.nz g.bank).nm k hk
theorem addI (g : G w0 w (X.h :: X.n :: M)) (nX : New w0 X) (hY : In X M Y) (hZ : In X M Z) (bY : Y.V < BB ^ 60) (bZ : Z.V < BB ^ 60) {Q : Ending → World → Prop}
  (q : ∀ (X' : IR) w', X'.p = X.p → G w0 w' (X'.h :: X'.n :: M) → New w0 X' → X'.v = Y.v + Z.v → Can X' → Q (.returned (.pointer (ptr X.p))) w') : Calls Tryz.prog 70 #[.pointer (ptr X.p), .pointer (ptr Y.p), .pointer (ptr Z.p)] w Q := by
 refine (c70 g.bank hY.opd hZ.opd (by have := hY.len g bY; unfold Len; omega) (by have := hZ.len g bZ; unfold Len; omega)).mono ?_
 rintro e w' ⟨rfl, ng', r, V', h1, h2, h3, h4, h5⟩
 exact q ⟨X.p, ng', r, V'⟩ w' rfl ⟨h1, nX.chg g.ch h5, g.hg⟩ (nX.next g.ch h4 ng' V') h2 h3
theorem subI (g : G w0 w (X.h :: X.n :: M)) (nX : New w0 X) (hY : In X M Y) (hZ : In X M Z) (bY : Y.V < BB ^ 60) (bZ : Z.V < BB ^ 60) {Q : Ending → World → Prop}
  (q : ∀ (X' : IR) w', X'.p = X.p → G w0 w' (X'.h :: X'.n :: M) → New w0 X' → X'.v = Y.v - Z.v → Can X' → Q (.returned (.pointer (ptr X.p))) w') : Calls Tryz.prog 97 #[.pointer (ptr X.p), .pointer (ptr Y.p), .pointer (ptr Z.p)] w Q := by
 refine (c97 g.bank hY.opd hZ.opd (by have := hY.len g bY; unfold Len; omega) (by have := hZ.len g bZ; unfold Len; omega)).mono ?_
 rintro e w' ⟨rfl, ng', r, V', h1, h2, h3, h4, h5⟩
 exact q ⟨X.p, ng', r, V'⟩ w' rfl ⟨h1, nX.chg g.ch h5, g.hg⟩ (nX.next g.ch h4 ng' V') h2 h3
theorem mulI (g : G w0 w (X.h :: X.n :: M)) (nX : New w0 X) (hY : In X M Y) (hZ : In X M Z) (hne : Y.p ≠ Z.p) (bY : Y.V < BB ^ 60) (bZ : Z.V < BB ^ 39) {Q : Ending → World → Prop}
  (q : ∀ (X' : IR) w', X'.p = X.p → G w0 w' (X'.h :: X'.n :: M) → New w0 X' → X'.v = Y.v * Z.v → Can X' → Q (.returned (.pointer (ptr X.p))) w') : Calls Tryz.prog 136 #[.pointer (ptr X.p), .pointer (ptr Y.p), .pointer (ptr Z.p)] w Q := by
 have lZ := hZ.len g bZ
 refine (c136 g.bank hY.opd hZ.opd hne (by have := hY.len g bY; unfold Len; omega) (by unfold Len; omega) (.inr (by omega)) (g.ch.glb g.hg)).mono ?_
 rintro e w' ⟨rfl, ng', r, V', h1, h2, h3, h4, h5⟩
 exact q ⟨X.p, ng', r, V'⟩ w' rfl ⟨h1, nX.chg g.ch h5, g.hg⟩ (nX.next g.ch h4 ng' V') h2 h3
theorem mulWI (g : G w0 w (X.h :: X.n :: M)) (nX : New w0 X) (hY : In X M Y) (bY : Y.V < BB ^ 59) (neg : Bool) {k : Nat} (hk : k < 18446744073709551616) {Q : Ending → World → Prop}
  (q : ∀ (X' : IR) w', X'.p = X.p → G w0 w' (X'.h :: X'.n :: M) → New w0 X' → X'.v = (if neg then -(Y.v * k) else Y.v * k) → X'.V = Y.V * k → Q (.returned undef) w') : Calls Tryz.prog 135 #[.pointer (ptr X.p), .pointer (ptr Y.p), .bool neg, .int .u64 (k : Int)] w Q := by
 refine (c135 g.bank hY.opd (by have := hY.len g bY; unfold Len; omega) neg hk).mono ?_
 rintro e w' ⟨rfl, r, h1, h2, h3⟩
 refine q ⟨X.p, Y.ng != neg, r, Y.V * k⟩ w' rfl ⟨h1, nX.chg g.ch h3, g.hg⟩ (nX.next g.ch h2 _ _) ?_ rfl
 show iv (Y.ng != neg) (Y.V * k) = _
 unfold IR.v iv
 cases Y.ng <;> cases neg <;> simp [Int.natCast_mul, Int.neg_mul]
end
theorem iv_abs (ng : Bool) (V : Nat) : (iv ng V).natAbs = V := by unfold iv; cases ng <;> simp
theorem IR.abs (X : IR) : X.v.natAbs = X.V := iv_abs _ _
theorem IR.lt {X : IR} {k : Nat} (h1 : X.v < (BB ^ k : Nat)) (h2 : -((BB ^ k : Nat) : Int) < X.v) : X.V < BB ^ k := by have := X.abs; omega
theorem IR.le {X : IR} : -(X.V : Int) ≤ X.v ∧ X.v ≤ X.V := by have := X.abs; omega
theorem mul_lt_word {V k n : Nat} (h : V < BB ^ n) (hk : k < 18446744073709551616) : V * k < BB ^ (n + 1) := by
 rw [BBpow_succ]
 exact Nat.lt_of_le_of_lt (Nat.mul_le_mul_left _ (Nat.le_of_lt hk)) (Nat.mul_lt_mul_of_pos_right h BB_pos)
section
variable {w0 w : World} {A B U W q r : IR} {M : List Item}
theorem c133 (g : G w0 w (A.h :: A.n :: B.h :: B.n :: q.h :: q.n :: r.h :: r.n :: M)) (nA : New w0 A) (nB : New w0 B) (nq : New w0 q) (nr : New w0 r) (bA : A.V < BB ^ 40) (bB : B.V < BB ^ 40) {u0 u1 v0 v1 : Nat} (e : Bool)
  (g0 : u0 < 18446744073709551616) (g1 : u1 < 18446744073709551616) (g2 : v0 < 18446744073709551616) (g3 : v1 < 18446744073709551616) {Q : Ending → World → Prop}
  (qq : ∀ (A' B' q' r' : IR) w', A'.p = A.p → B'.p = B.p → q'.p = q.p → r'.p = r.p → G w0 w' (A'.h :: A'.n :: B'.h :: B'.n :: q'.h :: q'.n :: r'.h :: r'.n :: M) → New w0 A' → New w0 B' → New w0 q' → New w0 r' →
   A'.v = (if e then (u0 : Int) * A.v - v0 * B.v else (v0 : Int) * B.v - u0 * A.v) → B'.v = (if e then (v1 : Int) * B.v - u1 * A.v else (u1 : Int) * A.v - v1 * B.v) → Can A' → Can B' → Q (.returned undef) w') :
  Calls Tryz.prog 133 #[.pointer (ptr A.p), .pointer (ptr B.p), .pointer (ptr q.p), .pointer (ptr r.p), .int .u64 (u0 : Int), .int .u64 (u1 : Int), .int .u64 (v0 : Int), .int .u64 (v1 : Int), .bool e] w Q := by
 refine (F133.call (ptr A.p) (ptr B.p) (ptr q.p) (ptr r.p) u0 u1 v0 v1 e w (fun v w' => Q (.returned v) w') fun B0 => ?_).mono fun e w' ⟨v, h1, h2⟩ => by rw [h1]; exact h2
 have bA' : A.V < BB ^ 59 := lt_pow_of_le bA (by omega)
 have bB' : B.V < BB ^ 59 := lt_pow_of_le bB (by omega)
 have ga : G w0 w (q.h :: q.n :: A.h :: A.n :: B.h :: B.n :: r.h :: r.n :: M) := g.pick 8 [4, 5, 0, 1, 2, 3, 6, 7] rfl
 refine mulWI ga nq (Y := B) (.inr ⟨by simp, by simp⟩) bB' e g2 fun q1 w1 p1 ga1 nq1 vq1 Vq1 => ⟨rfl, ?_⟩
 have gb : G w0 w1 (r.h :: r.n :: A.h :: A.n :: B.h :: B.n :: q1.h :: q1.n :: M) := ga1.pick 8 [6, 7, 2, 3, 4, 5, 0, 1] rfl
 refine mulWI gb nr (Y := A) (.inr ⟨by simp, by simp⟩) bA' e g1 fun r1 w2 p2 gb1 nr1 vr1 Vr1 => ⟨rfl, ?_⟩
 have gc : G w0 w2 (A.h :: A.n :: B.h :: B.n :: q1.h :: q1.n :: r1.h :: r1.n :: M) := gb1.pick 8 [2, 3, 4, 5, 6, 7, 0, 1] rfl
 refine mulWI gc nA (Y := A) (.inl rfl) bA' (!e) g0 fun A1 w3 p3 gc1 nA1 vA1 VA1 => ⟨rfl, ?_⟩
 have gd : G w0 w3 (B.h :: B.n :: A1.h :: A1.n :: q1.h :: q1.n :: r1.h :: r1.n :: M) := gc1.pick 4 [2, 3, 0, 1] rfl
 refine mulWI gd nB (Y := B) (.inl rfl) bB' (!e) g3 fun B1 w4 p4 gd1 nB1 vB1 VB1 => ⟨rfl, ?_⟩
 have ge : G w0 w4 (A1.h :: A1.n :: B1.h :: B1.n :: q1.h :: q1.n :: r1.h :: r1.n :: M) := gd1.pick 4 [2, 3, 0, 1] rfl
 have up : ∀ {V k}, V < BB ^ 40 → k < 18446744073709551616 → V * k < BB ^ 60 := fun h hk => lt_pow_of_le (mul_lt_word h hk) (by omega)
 rw [← p1, ← p2, ← p3, ← p4]
 refine addI ge nA1 (Y := A1) (Z := q1) (.inl rfl) (.inr ⟨by simp, by simp⟩) (by rw [VA1]; exact up bA g0) (by rw [Vq1]; exact up bB g2) fun A2 w5 p5 ge1 nA2 vA2 cA2 => ⟨_, rfl, ?_⟩
 have gf : G w0 w5 (B1.h :: B1.n :: A2.h :: A2.n :: q1.h :: q1.n :: r1.h :: r1.n :: M) := ge1.pick 4 [2, 3, 0, 1] rfl
 refine addI gf nB1 (Y := B1) (Z := r1) (.inl rfl) (.inr ⟨by simp, by simp⟩) (by rw [VB1]; exact up bB g3) (by rw [Vr1]; exact up bA g1) fun B2 w6 p6 gf1 nB2 vB2 cB2 => ⟨_, rfl, fun B3 => ret0 rfl ?_⟩
 refine qq A2 B2 q1 r1 w6 (p5.trans p3) (p6.trans p4) p1 p2 (gf1.pick 4 [2, 3, 0, 1] rfl) nA2 nB2 nq1 nr1 ?_ ?_ cA2 cB2
 ·rw [vA2, vA1, vq1]
  cases e <;> simp <;> grind
 ·rw [vB2, vB1, vr1]
  cases e <;> simp <;> grind
theorem c134 (g : G w0 w (q.h :: q.n :: r.h :: r.n :: U.h :: U.n :: A.h :: A.n :: B.h :: B.n :: W.h :: W.n :: M)) (nU : New w0 U) (nq : New w0 q) (nr : New w0 r) (hA : A.ng = false) (hB : B.ng = false) (hB0 : B.V ≠ 0) (bA : A.V < BB ^ 30) (bB : B.V < BB ^ 30) (bU : U.V < BB ^ 30) (bW : W.V < BB ^ 30) {Q : Ending → World → Prop}
  (qq : ∀ (q' r' U' : IR) w', q'.p = q.p → r'.p = r.p → U'.p = U.p → G w0 w' (U'.h :: U'.n :: q'.h :: q'.n :: r'.h :: r'.n :: A.h :: A.n :: B.h :: B.n :: W.h :: W.n :: M) → New w0 q' → New w0 r' → New w0 U' →
   r'.ng = false → r'.V = A.V % B.V → U'.v = U.v - ((A.V / B.V : Nat) : Int) * W.v → Can U' → Q (.returned (.tuple #[.pointer (ptr B.p), .pointer (ptr r.p), .pointer (ptr A.p), .pointer (ptr W.p), .pointer (ptr U.p)])) w') :
  Calls Tryz.prog 134 #[.pointer (ptr A.p), .pointer (ptr B.p), .pointer (ptr U.p), .pointer (ptr W.p), .pointer (ptr q.p), .pointer (ptr r.p), .bool true] w Q := by
 refine (F134.call (ptr A.p) (ptr B.p) (ptr U.p) (ptr W.p) (ptr q.p) (ptr r.p) true w (fun v w' => Q (.returned v) w') fun B0 => ?_).mono fun e w' ⟨v, h1, h2⟩ => by rw [h1]; exact h2
 have lB : B.s.l ≤ 30 := (g.bank.all B.n (by simp) : Nz w B.s B.V).nm 30 bB
 have lA : A.s.l ≤ 30 := (g.bank.all A.n (by simp) : Nz w A.s A.V).nm 30 bA
 have hAh : hdr A.p false A.s ∈ (U.h :: U.n :: A.h :: A.n :: B.h :: B.n :: W.h :: W.n :: M) := by rw [← hA]; simp
 have hBh : hdr B.p false B.s ∈ (U.h :: U.n :: A.h :: A.n :: B.h :: B.n :: W.h :: W.n :: M) := by rw [← hB]; simp
 refine (c96 (X := A.V) (Y := B.V) g.bank hAh (by simp) hBh (by simp) hB0 (by omega) (by omega) (g.ch.glb g.hg)).mono ?_
 rintro e w1 ⟨rfl, sq, sr, b1, fq, fr, hc⟩
 have nq1 : New w0 ⟨q.p, false, sq, A.V / B.V⟩ := nq.next g.ch fq _ _
 have nr1 : New w0 ⟨r.p, false, sr, A.V % B.V⟩ := nr.next g.ch fr _ _
 have c1 : Chg w0 w1 none2 := by
  refine g.ch.trans hc (fun _ _ _ h => h) fun b i hb hm => ?_
  rcases hm with (hm | hm) | (hm | hm)
  ·have hm : b = q.p := hm
   have := nq.1; omega
  ·have := nq.2 (by have := hm.2.1; have := hm.2.2; omega)
   have := hm.1; omega
  ·have hm : b = r.p := hm
   have := nr.1; omega
  ·have := nr.2 (by have := hm.2.1; have := hm.2.2; omega)
   have := hm.1; omega
 obtain ⟨q1, hq1⟩ : ∃ q1 : IR, q1 = ⟨q.p, false, sq, A.V / B.V⟩ := ⟨_, rfl⟩
 obtain ⟨r1, hr1⟩ : ∃ r1 : IR, r1 = ⟨r.p, false, sr, A.V % B.V⟩ := ⟨_, rfl⟩
 rw [← hq1] at nq1
 rw [← hr1] at nr1
 have g1 : G w0 w1 (q1.h :: q1.n :: r1.h :: r1.n :: U.h :: U.n :: A.h :: A.n :: B.h :: B.n :: W.h :: W.n :: M) := ⟨by rw [hq1, hr1]; exact b1, c1, g.hg⟩
 have pq1 : q1.p = q.p := by rw [hq1]
 have pr1 : r1.p = r.p := by rw [hr1]
 have Vq1 : q1.V = A.V / B.V := by rw [hq1]
 have vq1 : q1.v = ((A.V / B.V : Nat) : Int) := by rw [hq1]; rfl
 have bq1 : q1.V < BB ^ 30 := by rw [Vq1]; exact Nat.lt_of_le_of_lt (Nat.div_le_self _ _) bA
 have hne : q1.p ≠ W.p := HdrAt.ne (nq := W.ng) (t := W.s) g1.bank (by simp)
 refine ⟨_, trivial, _, trivial, rfl, bc_true rfl ?_⟩
 rw [← pq1]
 refine mulI g1 nq1 (Y := q1) (Z := W) (.inl rfl) (.inr ⟨by simp, by simp⟩) hne (lt_pow_of_le bq1 (by omega)) (lt_pow_of_le bW (by omega)) fun q2 w2 p2 g2 nq2 vq2 cq2 => ⟨_, rfl, ?_⟩
 have bq2 : q2.V < BB ^ 60 := by
  have h1 : q2.V = q1.V * W.V := by rw [← q2.abs, vq2, Int.natAbs_mul, q1.abs, W.abs]
  rw [h1, show (60 : Nat) = 30 + 30 from rfl]
  exact prod_lt bq1 bW
 have g3 : G w0 w2 (U.h :: U.n :: q2.h :: q2.n :: r1.h :: r1.n :: A.h :: A.n :: B.h :: B.n :: W.h :: W.n :: M) := g2.pick 6 [4, 5, 0, 1, 2, 3] rfl
 rw [← p2]
 refine subI g3 nU (Y := U) (Z := q2) (.inl rfl) (.inr ⟨by simp, by simp⟩) (lt_pow_of_le bU (by omega)) bq2 fun U1 w3 p3 g4 nU1 vU1 cU1 => ⟨_, rfl, fun B4 => ?_⟩
 refine F134.t1 (ptr A.p) (ptr B.p) (ptr W.p) (ptr U.p) (ptr r.p) ⟨rfl, rfl, rfl, rfl, rfl, trivial⟩ fun B5 B6 => ?_
 show Q (.returned (.tuple #[.pointer (ptr B.p), .pointer (ptr r.p), .pointer (ptr A.p), .pointer (ptr W.p), .pointer (ptr U.p)])) w3
 refine qq q2 r1 U1 w3 (p2.trans pq1) pr1 p3 g4 nq2 nr1 nU1 (by rw [hr1]) (by rw [hr1]) ?_ cU1
 rw [vU1, vq2, vq1]
end
end Go.Proofs.YtlkjiiibmfpbcaaGreatDoor
